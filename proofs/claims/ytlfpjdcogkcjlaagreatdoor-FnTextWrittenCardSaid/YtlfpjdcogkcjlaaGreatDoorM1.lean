/- Merged: AL1 AL2 AL3 AL4 AL5 AL6 AL7 AL8 AL9 AL10 AL11 AL12 AL13 ALV ALS -/
import Derived.WalkKit
import Derived.Below
import Derived.Laws.OwnMore
import Derived.Maps.AppendAt
import Derived.Deep.Draws
import Derived.Orders
import Derived.Laws.StructEq
/-
  A program logic over abstract states: values without addresses, objects by number; what an abstract state says of a machine's world.
-/
namespace Go.Proofs.YtlfpjdcogkcjlaaGreatDoor.AL
open Go.RowKit
set_option linter.unusedVariables false
set_option linter.unusedSimpArgs false

/-- A slot's value: a plain one, or one that leads to an object. -/
inductive AV where
  | val (v : Value)
  | ptr (o off : Nat)
  | sl (own : Bool) (o off len st : Nat)
  | mp (o : Nat)
  | ifc (t : TypeId) (x : AV)
  | fn (f : Fn) (first caps : List AV)
  | agg (l : List AV)
  | tup (l : List AV)
  | any
  deriving Inhabited
abbrev Env := List AV
/-- An object: cells that came in, cells of the call's own, or what is gone. -/
inductive AObj where
  | ro (cs : List AV)
  | own (e : TypeId) (cs : List AV)
  | map (es : List (ByteArray × AV))
  | gone
  deriving Inhabited
abbrev Heap := List AObj
/-- Where the objects lie: block and first cell. -/
abbrev Places := List (Nat × Nat)

def Room (w : World) (b n : Nat) : Prop := ∃ arr e fr, w.heap[b]? = some (.cells arr e fr) ∧ n ≤ arr.size
def Full (w : World) (b n : Nat) : Prop := ∃ arr e fr, w.heap[b]? = some (.cells arr e fr) ∧ n = arr.size

mutual
/-- What a value of the machine's is. -/
def rel (m : Places) (w : World) : AV → Value → Prop
  | .val v, x => x = v
  | .ptr o off, x => ∃ b, m[o]? = some b ∧ x = .pointer (some ⟨b.1, b.2 + off, none⟩)
  | .sl own o off len st, x => ∃ b a cap, m[o]? = some b ∧ x = .slice (some a) len cap ∧ len ≤ cap ∧ cap ≤ 9223372036854775807 ∧ (0 < cap → a = ⟨b.1, b.2 + off, none⟩ ∧ Room w b.1 (b.2 + off + cap * st)) ∧ (own = true → (cap = 0 ∧ 0 < off) ∨ (a = ⟨b.1, b.2 + off, none⟩ ∧ Full w b.1 (b.2 + off + cap * st)))
  | .mp o, x => ∃ b, m[o]? = some b ∧ x = .map (some b.1)
  | .ifc t c, x => ∃ v, x = .iface t v ∧ rel m w c v
  | .fn f a c, x => ∃ vs us, x = .func f vs us ∧ rels m w a vs.toList ∧ rels m w c us.toList
  | .agg l, x => ∃ vs, x = .agg vs ∧ rels m w l vs.toList
  | .tup l, x => ∃ vs, x = .tuple vs ∧ rels m w l vs.toList
  | .any, _ => True
def rels (m : Places) (w : World) : List AV → List Value → Prop
  | [], [] => True
  | c :: l, v :: vs => rel m w c v ∧ rels m w l vs
  | _, _ => False
end

/-- Blocks of cells keep their sizes and types. -/
def Szs (w w' : World) : Prop := ∀ (b : Nat) (arr : Array Value) (e : TypeId) (fr : Nat × Nat), w.heap[b]? = some (.cells arr e fr) → ∃ arr' : Array Value, w'.heap[b]? = some (.cells arr' e fr) ∧ arr'.size = arr.size
theorem Szs.refl (w : World) : Szs w w := fun b arr e fr h => ⟨arr, h, rfl⟩
theorem Szs.trans {a b c : World} (h : Szs a b) (k : Szs b c) : Szs a c := fun x arr e fr hx => by
  obtain ⟨arr', h1, h2⟩ := h x arr e fr hx
  obtain ⟨arr2, h3, h4⟩ := k x arr' e fr h1
  exact ⟨arr2, h3, h4.trans h2⟩
theorem Room.szs {w w' : World} {b n : Nat} (h : Room w b n) (hs : Szs w w') : Room w' b n := by
  obtain ⟨arr, e, fr, h1, h2⟩ := h
  obtain ⟨arr', h3, h4⟩ := hs _ _ _ _ h1
  exact ⟨arr', e, fr, h3, by omega⟩
theorem Full.szs {w w' : World} {b n : Nat} (h : Full w b n) (hs : Szs w w') : Full w' b n := by
  obtain ⟨arr, e, fr, h1, h2⟩ := h
  obtain ⟨arr', h3, h4⟩ := hs _ _ _ _ h1
  exact ⟨arr', e, fr, h3, by omega⟩

theorem get_pre {m m' : Places} (h : m <+: m') {o : Nat} {b : Nat × Nat} (hb : m[o]? = some b) : m'[o]? = some b := by
  obtain ⟨t, rfl⟩ := h
  rw [List.getElem?_append_left (by exact (List.getElem?_eq_some_iff.1 hb).1)]
  exact hb

mutual
theorem rel_more {m m' : Places} {w w' : World} (hm : m <+: m') (hs : Szs w w') : ∀ {c : AV} {v : Value}, rel m w c v → rel m' w' c v
  | .val _, _, h => h
  | .ptr .., _, ⟨b, h1, h2⟩ => ⟨b, get_pre hm h1, h2⟩
  | .sl .., _, ⟨b, a, cap, h1, h2, h3, h4, h5, h6⟩ => ⟨b, a, cap, get_pre hm h1, h2, h3, h4, fun hc => ⟨(h5 hc).1, (h5 hc).2.szs hs⟩, fun ho => (h6 ho).imp id fun h => ⟨h.1, h.2.szs hs⟩⟩
  | .mp _, _, ⟨b, h1, h2⟩ => ⟨b, get_pre hm h1, h2⟩
  | .ifc _ c, _, ⟨v, h1, h2⟩ => ⟨v, h1, rel_more hm hs h2⟩
  | .fn _ a c, _, ⟨vs, us, h1, h2, h3⟩ => ⟨vs, us, h1, rels_more hm hs h2, rels_more hm hs h3⟩
  | .agg l, _, ⟨vs, h1, h2⟩ => ⟨vs, h1, rels_more hm hs h2⟩
  | .tup l, _, ⟨vs, h1, h2⟩ => ⟨vs, h1, rels_more hm hs h2⟩
  | .any, _, _ => trivial
theorem rels_more {m m' : Places} {w w' : World} (hm : m <+: m') (hs : Szs w w') : ∀ {l : List AV} {vs : List Value}, rels m w l vs → rels m' w' l vs
  | [], [], _ => trivial
  | c :: l, v :: vs, h => ⟨rel_more hm hs h.1, rels_more hm hs h.2⟩
  | [], _ :: _, h => h.elim
  | _ :: _, [], h => h.elim
end

theorem rels_length {m : Places} {w : World} : ∀ {l : List AV} {vs : List Value}, rels m w l vs → l.length = vs.length
  | [], [], _ => rfl
  | c :: l, v :: vs, h => by simp [rels_length h.2]
  | [], _ :: _, h => h.elim
  | _ :: _, [], h => h.elim
theorem rels_get {m : Places} {w : World} : ∀ {l : List AV} {vs : List Value}, rels m w l vs → ∀ (i : Nat) c, l[i]? = some c → ∃ v, vs[i]? = some v ∧ rel m w c v
  | [], [], _, i, c, hi => by simp at hi
  | c :: l, v :: vs, h, 0, c', hi => ⟨v, rfl, by simp at hi; subst hi; exact h.1⟩
  | c :: l, v :: vs, h, i + 1, c', hi => by simpa using rels_get h.2 i c' (by simpa using hi)
  | [], _ :: _, h, _, _, _ => h.elim
  | _ :: _, [], h, _, _, _ => h.elim
theorem rels_of_get {m : Places} {w : World} : ∀ {l : List AV} {vs : List Value}, l.length = vs.length → (∀ (i : Nat) c v, l[i]? = some c → vs[i]? = some v → rel m w c v) → rels m w l vs
  | [], [], _, _ => trivial
  | c :: l, v :: vs, hl, h => ⟨h 0 c v rfl rfl, rels_of_get (by simpa using hl) fun i c' v' h1 h2 => h (i + 1) c' v' (by simpa using h1) (by simpa using h2)⟩
  | [], _ :: _, hl, _ => by simp at hl
  | _ :: _, [], hl, _ => by simp at hl
theorem rels_append {m : Places} {w : World} {l l' : List AV} {vs vs' : List Value} (h : rels m w l vs) (h' : rels m w l' vs') : rels m w (l ++ l') (vs ++ vs') := by
  induction l generalizing vs with
  | nil => cases vs with
    | nil => exact h'
    | cons _ _ => exact h.elim
  | cons c l ih => cases vs with
    | nil => exact h.elim
    | cons v vs => exact ⟨h.1, ih h.2⟩

/-- Where the call began: what lies below block B is as it was in w0. -/
structure Base where
  B : Nat
  w0 : World
  /-- the package-level variables: their blocks are the first ones, object g is variable g -/
  nG : Nat

def relO (C : Base) (m : Places) (w : World) (b : Nat × Nat) : AObj → Prop
  | .ro cs => b.1 < C.B ∧ ∀ (j : Nat) c, cs[j]? = some c → ∃ v, w.cell? ⟨b.1, b.2 + j, none⟩ = some v ∧ rel m w c v
  | .own e cs => (C.B ≤ b.1 ∧ b.2 = 0) ∧ ∃ arr, w.heap[b.1]? = some (.cells arr e (0, 0)) ∧ b.2 + cs.length ≤ arr.size ∧ ∀ (j : Nat) c, cs[j]? = some c → ∃ v, arr[b.2 + j]? = some v ∧ rel m w c v
  | .map es => C.B ≤ b.1 ∧ ∃ ens clock, w.heap[b.1]? = some (.map ens clock) ∧ ens.size = es.length ∧ ∀ (j : Nat) k c, es[j]? = some (k, c) → ∃ en, ens[j]? = some en ∧ en.key = .string k ∧ rel m w c en.val
  | .gone => True
def AObj.mine : AObj → Bool
  | .own .. => true
  | .map .. => true
  | _ => false

structure RepH (C : Base) (m : Places) (w : World) (H : Heap) : Prop where
  below : Below C.B C.w0 w
  size : C.B ≤ w.heap.size
  len : m.length = H.length
  glob : ∀ g, g < C.nG → m[g]? = some (g, 0)
  obj : ∀ (o : Nat) x b, H[o]? = some x → m[o]? = some b → relO C m w b x
  apart : ∀ (o o' : Nat) x x' b b', o ≠ o' → H[o]? = some x → H[o']? = some x' → m[o]? = some b → m[o']? = some b' → x.mine = true → x'.mine = true → b.1 ≠ b'.1

structure RepE (m : Places) (w : World) (env : Env) (a : Act) : Prop where
  defers : a.defers = []
  slots : rels m w env a.tmps.toList

/-- What a step's end is to the caller: further places, blocks that keep their sizes. -/
structure Fwd (C : Base) (m : Places) (w : World) (m' : Places) (w' : World) (H' : Heap) : Prop where
  pre : m <+: m'
  szs : Szs w w'
  rep : RepH C m' w' H'

theorem RepE.more {m m' : Places} {w w' : World} {env : Env} {a : Act} (h : RepE m w env a) (hm : m <+: m') (hs : Szs w w') : RepE m' w' env a := ⟨h.defers, rels_more hm hs h.slots⟩

theorem RepE.get {m : Places} {w : World} {env : Env} {a : Act} (h : RepE m w env a) (i : Nat) : rel m w (env.getD i .any) (a.tmps.getD i undef) := by
  rcases Nat.lt_or_ge i env.length with hi | hi
  · obtain ⟨v, h1, h2⟩ := rels_get h.slots i env[i] (List.getElem?_eq_getElem hi)
    rw [List.getD_eq_getElem?_getD, List.getElem?_eq_getElem hi]
    have : a.tmps.getD i undef = v := by
      rw [Array.getD_eq_getD_getElem?, ← Array.getElem?_toList, h1]; rfl
    rw [this]; exact h2
  · rw [List.getD_eq_getElem?_getD, List.getElem?_eq_none hi]; trivial

theorem rels_set {m : Places} {w : World} {l : List AV} {vs : List Value} (h : rels m w l vs) (d : Nat) {c : AV} {v : Value} (hc : rel m w c v) : rels m w (l.set d c) (vs.set d v) := by
  induction l generalizing vs d with
  | nil => cases vs with
    | nil => trivial
    | cons _ _ => exact h.elim
  | cons c' l ih => cases vs with
    | nil => exact h.elim
    | cons v' vs => cases d with
      | zero => exact ⟨hc, h.2⟩
      | succ d => exact ⟨h.1, ih h.2 d⟩

def setD (env : Env) (d : Option Nat) (c : AV) : Env := match d with | some d => env.set d c | none => env
theorem RepE.put {m : Places} {w : World} {env : Env} {a : Act} (h : RepE m w env a) (d : Option Nat) {c : AV} {v : Value} (hc : rel m w c v) : RepE m w (setD env d c) (a.put d v) := by
  cases d with
  | none => exact h
  | some d => exact ⟨h.defers, by simpa [Act.put, setD] using rels_set h.slots d hc⟩

end Go.Proofs.YtlfpjdcogkcjlaaGreatDoor.AL
/-
  The operations over abstract states: what each gives, and that the machine's operation does that.
-/
namespace Go.Proofs.YtlfpjdcogkcjlaaGreatDoor.AL
open Go.RowKit
set_option linter.unusedVariables false
set_option linter.unusedSimpArgs false

/-- A computation that touches no memory. -/
def pureRun (P : Program) {α : Type} : Sem α → Option α
  | .pure a => some a
  | .program k => pureRun P (k P)
  | _ => none
theorem pureRun_run {P : Program} {α : Type} : ∀ {s : Sem α} {v : α}, pureRun P s = some v → ∀ w, s.run P w = .ok v w
  | .pure a, v, h, w => by simp only [pureRun, Option.some.injEq] at h; subst h; rfl
  | .program k, v, h, w => by simp only [pureRun] at h; simp only [Sem.run]; exact pureRun_run h w
  | .load .., _, h, _ => by simp [pureRun] at h
  | .store .., _, h, _ => by simp [pureRun] at h
  | .new .., _, h, _ => by simp [pureRun] at h
  | .shape .., _, h, _ => by simp [pureRun] at h
  | .freeze .., _, h, _ => by simp [pureRun] at h
  | .frozen .., _, h, _ => by simp [pureRun] at h
  | .getObj .., _, h, _ => by simp [pureRun] at h
  | .setObj .., _, h, _ => by simp [pureRun] at h
  | .choose .., _, h, _ => by simp [pureRun] at h
  | .sys .., _, h, _ => by simp [pureRun] at h
  | .mark .., _, h, _ => by simp [pureRun] at h
  | .halt .., _, h, _ => by simp [pureRun] at h

/-- What types say: the number of cells of a struct or an array (none: one cell, by itself). -/
inductive Kind where
  | one
  | many (n : Nat)
  deriving DecidableEq
def kd (P : Program) (t : TypeId) : Option Kind :=
  match P.underlying t, P.info? t with
  | some (.struct _), some i => some (.many i.size)
  | some (.array ..), some i => some (.many i.size)
  | some _, some i => if i.size = 1 then some .one else none
  | _, _ => none
/-- A struct's field: its first cell (fields without cells are left out). -/
def fo (P : Program) (t : TypeId) (f : Nat) : Option Nat :=
  match P.underlying t with
  | some (.struct fs) => match fs[f]? with
    | some x => match P.info? x.type with
      | some i => if i.size = 0 then none else some x.offset
      | none => none
    | none => none
  | _ => none
/-- A slice type's element: its type, cells, bytes, zero. -/
def el (P : Program) (t : TypeId) : Option (TypeId × Nat × Nat × List Value) :=
  match P.underlying t with
  | some (.slice e) => match P.info? e with
    | some i => match i.zero with
      | some z => if z.cells.size = i.size ∧ 0 < i.size ∧ (z.cells.all fun u => u.oneCell') then some (e, i.size, i.bytes, z.cells.toList) else none
      | none => none
    | none => none
  | _ => none
/-- A type's zero cells. -/
def zc (P : Program) (t : TypeId) : Option (List Value) :=
  match P.info? t with
  | some i => match i.zero with
    | some z => if z.cells.size = i.size then some z.cells.toList else none
    | none => none
  | none => none

def opA (env : Env) : Operand → AV
  | .tmp t => env.getD t .any
  | .const v => .val v
  | .global g => .ptr g 0
  | .func f => .fn (.func f) [] []

mutual
/-- A value that leads to no object, as the machine has it. -/
def plain : AV → Option Value
  | .val v => some v
  | .agg l => (plains l).map fun vs => .agg vs.toArray
  | .tup l => (plains l).map fun vs => .tuple vs.toArray
  | .ifc t c => (plain c).map (.iface t)
  | _ => none
def plains : List AV → Option (List Value)
  | [] => some []
  | c :: l => (plain c).bind fun v => (plains l).map (v :: ·)
end
mutual
theorem plain_rel {m : Places} {w : World} : ∀ {c : AV} {v x : Value}, plain c = some v → rel m w c x → x = v
  | .val u, v, x, h, hr => by simp only [plain, Option.some.injEq] at h; subst h; exact hr
  | .agg l, v, x, h, hr => by
    simp only [plain, Option.map_eq_some_iff] at h
    obtain ⟨vs, h1, rfl⟩ := h
    obtain ⟨us, rfl, h2⟩ := hr
    rw [← plains_rel h1 h2]
  | .tup l, v, x, h, hr => by
    simp only [plain, Option.map_eq_some_iff] at h
    obtain ⟨vs, h1, rfl⟩ := h
    obtain ⟨us, rfl, h2⟩ := hr
    rw [← plains_rel h1 h2]
  | .ifc t c, v, x, h, hr => by
    simp only [plain, Option.map_eq_some_iff] at h
    obtain ⟨u, h1, rfl⟩ := h
    obtain ⟨y, rfl, h2⟩ := hr
    rw [plain_rel h1 h2]
  | .ptr .., _, _, h, _ => by simp [plain] at h
  | .sl .., _, _, h, _ => by simp [plain] at h
  | .mp .., _, _, h, _ => by simp [plain] at h
  | .fn .., _, _, h, _ => by simp [plain] at h
  | .any, _, _, h, _ => by simp [plain] at h
theorem plains_rel {m : Places} {w : World} : ∀ {l : List AV} {vs us : List Value}, plains l = some vs → rels m w l us → us = vs
  | [], vs, us, h, hr => by
    simp only [plains, Option.some.injEq] at h
    subst h
    cases us with
    | nil => rfl
    | cons _ _ => exact hr.elim
  | c :: l, vs, us, h, hr => by
    simp only [plains, Option.bind_eq_some_iff, Option.map_eq_some_iff] at h
    obtain ⟨v, h1, vs', h2, rfl⟩ := h
    cases us with
    | nil => exact hr.elim
    | cons u us => rw [plain_rel h1 hr.1, plains_rel h2 hr.2]
end

def cellsOf (H : Heap) (o : Nat) : Option (List AV) :=
  match H[o]? with
  | some (.ro cs) => some cs
  | some (.own _ cs) => some cs
  | _ => none
/-- Does it lie in one cell? -/
def AV.one : AV → Bool
  | .val v => v.oneCell'
  | .agg _ => false
  | .tup _ => false
  | .any => false
  | _ => true
theorem one_rel {m : Places} {w : World} {c : AV} {v : Value} (h : c.one = true) (hr : rel m w c v) : v.oneCell' = true := by
  cases c with
  | val u => rw [show v = u from hr]; exact h
  | ptr o off => obtain ⟨b, _, rfl⟩ := hr; rfl
  | sl a o off len st => obtain ⟨b, a, cap, _, rfl, _⟩ := hr; rfl
  | mp o => obtain ⟨b, _, rfl⟩ := hr; rfl
  | ifc t c => obtain ⟨u, rfl, _⟩ := hr; rfl
  | fn f a c => obtain ⟨us, vs, rfl, _⟩ := hr; rfl
  | agg _ => simp [AV.one] at h
  | tup _ => simp [AV.one] at h
  | any => simp [AV.one] at h
/-- The cells that a value is. -/
def avCells : AV → Option (List AV)
  | .agg l => if l.all AV.one then some l else none
  | .val v => if v.oneCell' then some [.val v] else match v with | .agg vs => if vs.toList.all Value.oneCell' then some (vs.toList.map .val) else none | _ => none
  | .any => none
  | .tup _ => none
  | c => some [c]
theorem rels_val (m : Places) (w : World) : ∀ vs : List Value, rels m w (vs.map .val) vs
  | [] => trivial
  | v :: vs => ⟨rfl, rels_val m w vs⟩
theorem rels_one {m : Places} {w : World} : ∀ {l : List AV} {vs : List Value}, l.all AV.one = true → rels m w l vs → ∀ v ∈ vs, v.oneCell' = true
  | [], [], _, _ => by simp
  | c :: l, v :: vs, h, hr => by
    simp only [List.all_cons, Bool.and_eq_true] at h
    intro u hu
    rcases List.mem_cons.1 hu with rfl | hu
    · exact one_rel h.1 hr.1
    · exact rels_one h.2 hr.2 u hu
  | [], _ :: _, _, hr => hr.elim
  | _ :: _, [], _, hr => hr.elim
theorem cells_one {v : Value} (h : v.oneCell' = true) : v.cells = #[v] := by cases v <;> first | rfl | simp [Value.oneCell'] at h
theorem avCells_rel {m : Places} {w : World} {c : AV} {v : Value} {l : List AV} (h : avCells c = some l) (hr : rel m w c v) :
    rels m w l v.cells.toList ∧ ∀ u ∈ v.cells.toList, u.oneCell' = true := by
  have lone : ∀ c : AV, c.one = true → rel m w c v → avCells c = some [c] → avCells c = some l → rels m w l v.cells.toList ∧ ∀ u ∈ v.cells.toList, u.oneCell' = true := by
    intro c h1 hr h2 h3
    rw [h2] at h3
    obtain rfl := Option.some.inj h3
    have h4 := one_rel h1 hr
    rw [cells_one h4]
    exact ⟨⟨hr, trivial⟩, by simpa using h4⟩
  cases c with
  | agg l' =>
    simp only [avCells] at h
    split at h
    · rename_i ha
      obtain rfl := Option.some.inj h
      obtain ⟨vs, rfl, h2⟩ := hr
      exact ⟨h2, rels_one ha h2⟩
    · cases h
  | val u =>
    have hu : v = u := hr
    subst hu
    simp only [avCells] at h
    split at h
    · rename_i h1
      obtain rfl := Option.some.inj h
      rw [cells_one h1]
      exact ⟨⟨rfl, trivial⟩, by simpa using h1⟩
    · split at h
      · split at h
        · rename_i vs _ ha
          obtain rfl := Option.some.inj h
          exact ⟨rels_val m w _, fun u hu => List.all_eq_true.1 ha u (by simpa [Value.cells] using hu)⟩
        · cases h
      · cases h
  | any => simp [avCells] at h
  | tup _ => simp [avCells] at h
  | ptr o off => exact lone _ rfl hr rfl h
  | sl a o off len st => exact lone _ rfl hr rfl h
  | mp o => exact lone _ rfl hr rfl h
  | ifc t c => exact lone _ rfl hr rfl h
  | fn f a c => exact lone _ rfl hr rfl h

/-- A step's answer: the value that it yields (none: nothing is yielded), the objects behind it. -/
abbrev Ans := Option (AV × Heap)

def loadA (P : Program) (t : TypeId) (x : AV) (H : Heap) : Ans :=
  match x with
  | .ptr o off => match cellsOf H o, kd P t with
    | some cs, some .one => (cs[off]?).map fun c => (c, H)
    | some cs, some (.many n) => if off + n ≤ cs.length then some (.agg ((cs.drop off).take n), H) else none
    | _, _ => none
  | _ => none
/-- cells put from place i on -/
def putCells (cs : List AV) (i : Nat) (l : List AV) : List AV := cs.take i ++ l ++ cs.drop (i + l.length)
def storeA (P : Program) (t : TypeId) (x v : AV) (H : Heap) : Option Heap :=
  match x, avCells v with
  | .ptr o off, some l => match H[o]? with
    | some (.own e cs) => if (P.info? t).map (·.size) = some l.length ∧ off + l.length ≤ cs.length then some (H.set o (.own e (putCells cs off l))) else none
    | _ => none
  | _, _ => none
def natOf (i : Int) (n : Nat) : Option Nat := if 0 ≤ i ∧ i ≤ n then some i.toNat else none

end Go.Proofs.YtlfpjdcogkcjlaaGreatDoor.AL
/-
  Loads and stores over abstract states are the machine's.
-/
namespace Go.Proofs.YtlfpjdcogkcjlaaGreatDoor.AL
open Go.RowKit
set_option linter.unusedVariables false
set_option linter.unusedSimpArgs false

theorem add_at (b o k : Nat) : (⟨b, o, none⟩ : Addr).add k = ⟨b, o + k, none⟩ := by unfold Addr.add; split <;> simp_all

theorem run_load_cell {P : Program} {w : World} {a : Addr} {v : Value} (h : w.cell? a = some v) : (load a).run P w = .ok v w := by simp [load, Sem.run, h]
theorem run_cellsFrom {P : Program} {w : World} (b o : Nat) : ∀ (n i : Nat) (vs acc : List Value), vs.length = n → (∀ j v, vs[j]? = some v → w.cell? ⟨b, o + (i + j), none⟩ = some v) →
    (loadCellsFrom ⟨b, o, none⟩ i n acc.toArray).run P w = .ok (acc ++ vs).toArray w
  | 0, i, vs, acc, hl, _ => by
    obtain rfl := List.eq_nil_of_length_eq_zero hl
    simp [loadCellsFrom]
  | n + 1, i, vs, acc, hl, h => by
    cases vs with
    | nil => simp at hl
    | cons v vs =>
      have h0 := h 0 v rfl
      rw [Nat.add_zero] at h0
      rw [loadCellsFrom, Sem.run_bind, add_at, run_load_cell h0, Result.andThen_ok]
      have := run_cellsFrom (P := P) b o n (i + 1) vs (acc ++ [v]) (by simpa using hl) (fun j u hj => by
        have := h (j + 1) u (by simpa using hj)
        rwa [show o + (i + (j + 1)) = o + (i + 1 + j) by omega] at this)
      simpa using this

variable {P : Program} {C : Base}
theorem run_isAgg_one {t : TypeId} {d : TypeDesc} {w : World} (hu : P.underlying t = some d) (hs : ∀ fs, d ≠ .struct fs) (ha : ∀ l e, d ≠ .array l e) : (isAgg t).run P w = .ok false w := by
  unfold isAgg
  rw [Sem.run_bind, run_underlying hu, Result.andThen_ok]
  cases d <;> simp_all
theorem run_isAgg_many {t : TypeId} {d : TypeDesc} {w : World} (hu : P.underlying t = some d) (hs : (∃ fs, d = .struct fs) ∨ (∃ l e, d = .array l e)) : (isAgg t).run P w = .ok true w := by
  unfold isAgg
  rw [Sem.run_bind, run_underlying hu, Result.andThen_ok]
  rcases hs with ⟨_, rfl⟩ | ⟨_, _, rfl⟩ <;> simp
theorem run_sizeOf {t : TypeId} {i : TypeInfo} {w : World} (hi : P.info? t = some i) : (sizeOf t).run P w = .ok i.size w := by
  simp [sizeOf, typeInfo, hi]
theorem kd_one {t : TypeId} (h : kd P t = some .one) : ∃ d i, P.underlying t = some d ∧ P.info? t = some i ∧ i.size = 1 ∧ (∀ fs, d ≠ .struct fs) ∧ ∀ l e, d ≠ .array l e := by
  unfold kd at h
  split at h
  · simp at h
  · simp at h
  · rename_i d i hu hi hs ha
    split at h
    · exact ⟨d, i, hs, ha, by assumption, fun fs e => hu fs e, fun l e he => hi l e he⟩
    · cases h
  · cases h
theorem kd_many {t : TypeId} {n : Nat} (h : kd P t = some (.many n)) : ∃ d i, P.underlying t = some d ∧ P.info? t = some i ∧ i.size = n ∧ ((∃ fs, d = .struct fs) ∨ ∃ l e, d = .array l e) := by
  unfold kd at h
  split at h
  · rename_i fs i hu hi
    simp only [Option.some.injEq, Kind.many.injEq] at h
    exact ⟨_, i, hu, hi, h, .inl ⟨_, rfl⟩⟩
  · rename_i l e i hu hi
    simp only [Option.some.injEq, Kind.many.injEq] at h
    exact ⟨_, i, hu, hi, h, .inr ⟨_, _, rfl⟩⟩
  · split at h <;> simp at h
  · cases h

theorem RepH.cell {m : Places} {w : World} {H : Heap} (h : RepH C m w H) {o : Nat} {cs : List AV} (hc : cellsOf H o = some cs) {b : Nat × Nat} (hb : m[o]? = some b) {j : Nat} {c : AV} (hj : cs[j]? = some c) :
    ∃ v, w.cell? ⟨b.1, b.2 + j, none⟩ = some v ∧ rel m w c v := by
  unfold cellsOf at hc
  split at hc
  · rename_i cs' hx
    obtain rfl := Option.some.inj hc
    exact (h.obj _ _ _ hx hb).2 j c hj
  · rename_i e cs' hx
    obtain rfl := Option.some.inj hc
    obtain ⟨_, arr, h1, _, h3⟩ := h.obj _ _ _ hx hb
    obtain ⟨v, h4, h5⟩ := h3 j c hj
    exact ⟨v, by simp [World.cell?, h1, h4], h5⟩
  · cases hc

theorem RepH.cells {m : Places} {w : World} {H : Heap} (h : RepH C m w H) {o : Nat} {cs : List AV} (hc : cellsOf H o = some cs) {b : Nat × Nat} (hb : m[o]? = some b) :
    ∀ (n i : Nat), i + n ≤ cs.length → ∃ vs : List Value, vs.length = n ∧ (∀ j v, vs[j]? = some v → w.cell? ⟨b.1, b.2 + (i + j), none⟩ = some v) ∧ rels m w ((cs.drop i).take n) vs
  | 0, i, _ => ⟨[], rfl, by simp, by simp [rels]⟩
  | n + 1, i, hi => by
    have hlt : i < cs.length := by omega
    obtain ⟨v, h1, h2⟩ := h.cell hc hb (List.getElem?_eq_getElem hlt)
    obtain ⟨vs, h3, h4, h5⟩ := h.cells hc hb n (i + 1) (by omega)
    refine ⟨v :: vs, by simp [h3], fun j u hj => ?_, ?_⟩
    · cases j with
      | zero => simp at hj; subst hj; exact h1
      | succ j => have := h4 j u (by simpa using hj); rwa [show b.2 + (i + (j + 1)) = b.2 + (i + 1 + j) by omega]
    · rw [List.drop_eq_getElem_cons hlt, List.take_succ_cons]
      exact ⟨h2, h5⟩

theorem loadA_run {t : TypeId} {x : AV} {H H' : Heap} {r : AV} (h : loadA P t x H = some (r, H')) {m : Places} {w : World} (hR : RepH C m w H) {v : Value} (hv : rel m w x v) :
    H' = H ∧ ∃ u, (Instr.loadAt t v).run P w = .ok u w ∧ rel m w r u := by
  unfold loadA at h
  split at h
  · rename_i o off
    obtain ⟨b, hb, rfl⟩ := hv
    split at h
    · rename_i cs hc hk
      simp only [Option.map_eq_some_iff, Prod.mk.injEq] at h
      obtain ⟨c, hcs, rfl, rfl⟩ := h
      obtain ⟨u, h1, h2⟩ := hR.cell hc hb hcs
      refine ⟨rfl, u, ?_, h2⟩
      obtain ⟨d, i, hu, _, _, hs, ha⟩ := kd_one hk
      simp [Instr.loadAt, Instr.sureAddr, loadVar, run_isAgg_one hu hs ha, load, Sem.run, h1]
    · rename_i cs n hc hk
      split at h
      · rename_i hle
        simp only [Option.some.injEq, Prod.mk.injEq] at h
        obtain ⟨rfl, rfl⟩ := h
        obtain ⟨vs, h1, h2, h3⟩ := hR.cells hc hb n off hle
        refine ⟨rfl, .agg vs.toArray, ?_, vs.toArray, rfl, by simpa using h3⟩
        have hrun := run_cellsFrom (P := P) (w := w) b.1 (b.2 + off) n 0 vs [] h1 (fun j u hj => by
          have := h2 j u hj
          rwa [show b.2 + (off + j) = b.2 + off + (0 + j) by omega] at this)
        obtain ⟨d, i, hu, hi, hn, hs⟩ := kd_many hk
        have hrun2 : (loadCells ⟨b.1, b.2 + off, none⟩ n).run P w = .ok vs.toArray w := by unfold loadCells; simpa using hrun
        simp [Instr.loadAt, Instr.sureAddr, loadVar, run_isAgg_many hu hs, run_sizeOf hi, hn, hrun2]
      · cases h
    · cases h
  · cases h

/-- Only block b turned: cells i, i + 1, .. of its row are vs. -/
structure Turned (w w' : World) (b : Nat) (e : TypeId) (arr : Array Value) (i : Nat) (vs : List Value) : Prop where
  os : w'.os = w.os
  tape : w'.tape = w.tape
  output : w'.output = w.output
  size : w'.heap.size = w.heap.size
  far : ∀ k, k ≠ b → w'.heap[k]? = w.heap[k]?
  here : ∃ arr', w'.heap[b]? = some (.cells arr' e (0, 0)) ∧ arr'.size = arr.size ∧ ∀ j, arr'[j]? = if i ≤ j ∧ j < i + vs.length then vs[j - i]? else arr[j]?

theorem run_store_cell {P : Program} {w : World} {b i : Nat} {e : TypeId} {arr : Array Value} (h : w.heap[b]? = some (.cells arr e (0, 0))) (hi : i < arr.size) {v : Value} (h1 : v.oneCell' = true) :
    (store ⟨b, i, none⟩ v).run P w = .ok () (w.setCell ⟨b, i, none⟩ v) := by
  have hc : w.cell? ⟨b, i, none⟩ = some arr[i] := by simp [World.cell?, h, hi]
  have hf : w.frozen? ⟨b, i, none⟩ = false := by simp [World.frozen?, h]
  cases v <;> first | (simp [Value.oneCell'] at h1; done) | simp [store, Sem.run, hc, hf]

theorem run_storeCells {P : Program} (b o : Nat) (e : TypeId) : ∀ (vs : List Value) (i : Nat) (w : World) (arr : Array Value), w.heap[b]? = some (.cells arr e (0, 0)) → o + i + vs.length ≤ arr.size → (∀ v ∈ vs, v.oneCell' = true) →
    ∃ w', (storeCells ⟨b, o, none⟩ vs i).run P w = .ok () w' ∧ Turned w w' b e arr (o + i) vs
  | [], i, w, arr, h, hl, h1 => ⟨w, by simp [storeCells], rfl, rfl, rfl, rfl, fun _ _ => rfl, arr, h, rfl, fun j => by simp; intro h1 h2; omega⟩
  | v :: vs, i, w, arr, h, hl, h1 => by
    simp only [List.length_cons] at hl
    have hr := run_store_cell (P := P) h (i := o + i) (by omega) (h1 v (by simp))
    have hh : (w.setCell ⟨b, o + i, none⟩ v).heap[b]? = some (.cells (arr.setIfInBounds (o + i) v) e (0, 0)) := by simp [World.setCell, Array.getElem?_modify, h]
    obtain ⟨w', h2, h3⟩ := run_storeCells b o e vs (i + 1) _ _ hh (by simp; omega) (fun u hu => h1 u (by simp [hu]))
    refine ⟨w', ?_, h3.os, h3.tape, h3.output, h3.size.trans (by simp [World.setCell]), fun k hk => (h3.far k hk).trans (Below.heap_setCell w _ v k hk), ?_⟩
    · rw [storeCells, Sem.run_bind, add_at, hr, Result.andThen_ok]; exact h2
    · obtain ⟨arr', h4, h5, h6⟩ := h3.here
      refine ⟨arr', h4, by simpa using h5, fun j => ?_⟩
      rw [h6 j]
      by_cases hj : j = o + i
      · subst hj
        rw [if_neg (by omega), if_pos (by simp)]
        simp [show o + i < arr.size by omega]
      · by_cases h7 : o + (i + 1) ≤ j ∧ j < o + (i + 1) + vs.length
        · rw [if_pos h7, if_pos (by simp; omega), show j - (o + i) = (j - (o + (i + 1))) + 1 by omega]
          simp
        · rw [if_neg h7, if_neg (by simp; omega)]
          rw [Array.getElem?_setIfInBounds_ne (by omega)]

theorem Turned.szs {w w' : World} {b i : Nat} {e : TypeId} {arr : Array Value} {vs : List Value} (h : Turned w w' b e arr i vs) (hb : w.heap[b]? = some (.cells arr e (0, 0))) : Szs w w' := fun k a e' fr hk => by
  by_cases he : k = b
  · subst he
    rw [hb] at hk
    obtain ⟨arr', h1, h2, _⟩ := h.here
    injection hk with hk
    injection hk with ha he' hf
    subst ha; subst he'; subst hf
    exact ⟨arr', h1, h2⟩
  · exact ⟨a, (h.far k he).trans hk, rfl⟩

theorem relO_far {m : Places} {w w' : World} {b : Nat × Nat} {x : AObj} (h : relO C m w b x) (hs : Szs w w') (hk : w'.heap[b.1]? = w.heap[b.1]?) : relO C m w' b x := by
  cases x with
  | ro cs => exact ⟨h.1, fun j c hj => by
      obtain ⟨v, h1, h2⟩ := h.2 j c hj
      exact ⟨v, (World.cell?_of_block (a := ⟨b.1, b.2 + j, none⟩) hk).trans h1, rel_more (List.prefix_refl m) hs h2⟩⟩
  | own e cs =>
    obtain ⟨h0, arr, h1, h2, h3⟩ := h
    exact ⟨h0, arr, hk.trans h1, h2, fun j c hj => by
      obtain ⟨v, h4, h5⟩ := h3 j c hj
      exact ⟨v, h4, rel_more (List.prefix_refl m) hs h5⟩⟩
  | map es =>
    obtain ⟨h0, ens, clock, h1, h2, h3⟩ := h
    exact ⟨h0, ens, clock, hk.trans h1, h2, fun j k c hj => by
      obtain ⟨en, h4, h5, h6⟩ := h3 j k c hj
      exact ⟨en, h4, h5, rel_more (List.prefix_refl m) hs h6⟩⟩
  | gone => trivial

theorem relO_block {m : Places} {w : World} {b : Nat × Nat} {x : AObj} (h : relO C m w b x) (hx : x.mine = false) (hg : x ≠ .gone) : b.1 < C.B := by
  cases x with
  | ro cs => exact h.1
  | own e cs => simp [AObj.mine] at hx
  | map es => simp [AObj.mine] at hx
  | gone => exact absurd rfl hg

/-- A row of the call's own whose block alone turned. -/
theorem RepH.turn {m : Places} {w w' : World} {H : Heap} (h : RepH C m w H) {o : Nat} {b : Nat × Nat} {e : TypeId} {cs cs' : List AV} (ho : H[o]? = some (.own e cs)) (hb : m[o]? = some b)
    (hos : w'.os = w.os) (htape : w'.tape = w.tape) (hout : w'.output = w.output) (hsize : w'.heap.size = w.heap.size) (hfar : ∀ k, k ≠ b.1 → w'.heap[k]? = w.heap[k]?) (hs : Szs w w')
    (hnew : ∃ arr, w'.heap[b.1]? = some (.cells arr e (0, 0)) ∧ b.2 + cs'.length ≤ arr.size ∧ ∀ (j : Nat) c, cs'[j]? = some c → ∃ v, arr[b.2 + j]? = some v ∧ rel m w' c v) :
    RepH C m w' (H.set o (.own e cs')) := by
  have hB : C.B ≤ b.1 := (h.obj _ _ _ ho hb).1.1
  have hlt : o < H.length := (List.getElem?_eq_some_iff.1 ho).1
  refine ⟨⟨hos.trans h.below.os, htape.trans h.below.tape, hout.trans h.below.output, by rw [hsize]; exact h.below.size, fun k hk => (hfar k (by omega)).trans (h.below.block k hk)⟩, by rw [hsize]; exact h.size, by simpa using h.len, h.glob, ?_, ?_⟩
  · intro q x b' hx hb'
    by_cases hq : q = o
    · subst hq
      rw [List.getElem?_set_self hlt] at hx
      obtain rfl := Option.some.inj hx
      rw [hb] at hb'
      obtain rfl := Option.some.inj hb'
      exact ⟨(h.obj _ _ _ ho hb).1, hnew⟩
    · rw [List.getElem?_set_ne (by omega)] at hx
      have hr := h.obj _ _ _ hx hb'
      by_cases hg : x = .gone
      · subst hg; trivial
      · refine relO_far hr hs (hfar _ ?_)
        cases hm : x.mine with
        | true => exact h.apart q o x _ b' b hq hx ho hb' hb hm rfl
        | false => have := relO_block hr hm hg; omega
  · intro q q' x x' b1 b2 hne hx hx' h1 h2 hm hm'
    have aux : ∀ (q : Nat) x, (H.set o (.own e cs'))[q]? = some x → x.mine = true → ∃ y, H[q]? = some y ∧ y.mine = true := by
      intro q x hx hm
      by_cases hq : q = o
      · subst hq; exact ⟨_, ho, rfl⟩
      · rw [List.getElem?_set_ne (by omega)] at hx; exact ⟨x, hx, hm⟩
    obtain ⟨y, hy, hym⟩ := aux q x hx hm
    obtain ⟨y', hy', hym'⟩ := aux q' x' hx' hm'
    exact h.apart q q' y y' b1 b2 hne hy hy' h1 h2 hym hym'
theorem putCells_length (cs : List AV) (i : Nat) (l : List AV) (h : i + l.length ≤ cs.length) : (putCells cs i l).length = cs.length := by
  simp [putCells]; omega
theorem putCells_get (cs : List AV) (i : Nat) (l : List AV) (h : i + l.length ≤ cs.length) (j : Nat) : (putCells cs i l)[j]? = if i ≤ j ∧ j < i + l.length then l[j - i]? else cs[j]? := by
  unfold putCells
  by_cases h1 : j < i
  · rw [if_neg (by omega), List.append_assoc, List.getElem?_append_left (by simp; omega), List.getElem?_take_of_lt h1]
  · by_cases h2 : j < i + l.length
    · rw [if_pos ⟨by omega, h2⟩, List.append_assoc, List.getElem?_append_right (by simp; omega), List.getElem?_append_left (by simp; omega)]
      simp [show min i cs.length = i by omega]
    · rw [if_neg (by omega), List.getElem?_append_right (by simp; omega)]
      simp [show min i cs.length = i by omega, List.getElem?_drop]
      congr 1; omega

theorem storeA_run {t : TypeId} {x y : AV} {H H' : Heap} (h : storeA P t x y H = some H') {m : Places} {w : World} (hR : RepH C m w H) {v u : Value} (hv : rel m w x v) (hu : rel m w y u) :
    ∃ w', (Instr.storeAt t v u).run P w = .ok () w' ∧ Fwd C m w m w' H' := by
  unfold storeA at h
  split at h
  · rename_i o off l hl
    obtain ⟨b, hb, rfl⟩ := hv
    split at h
    · rename_i e cs ho
      split at h
      · rename_i hc
        obtain ⟨hsz, hle⟩ := hc
        obtain rfl := Option.some.inj h
        obtain ⟨h1, h2⟩ := avCells_rel hl hu
        obtain ⟨hB, arr, h3, h4, h5⟩ := hR.obj _ _ _ ho hb
        have hll := rels_length h1
        obtain ⟨w', h6, h7⟩ := run_storeCells (P := P) b.1 (b.2 + off) e u.cells.toList 0 w arr h3 (by rw [← hll]; omega) h2
        rw [Nat.add_zero] at h7
        have hs := h7.szs h3
        refine ⟨w', ?_, List.prefix_refl m, hs, ?_⟩
        · obtain ⟨i, hi, hsz'⟩ := Option.map_eq_some_iff.1 hsz
          have : u.cells.size = i.size := by rw [hsz', hll]; simp
          simp [Instr.storeAt, Instr.sureAddr, storeVar, run_sizeOf hi, this, h6]
        · refine hR.turn ho hb h7.os h7.tape h7.output h7.size h7.far hs ?_
          obtain ⟨arr', h8, h9, h10⟩ := h7.here
          refine ⟨arr', h8, by rw [putCells_length _ _ _ hle]; omega, fun j c hj => ?_⟩
          rw [putCells_get _ _ _ hle] at hj
          split at hj
          · rename_i hlt
            obtain ⟨v, h11, h12⟩ := rels_get h1 _ _ hj
            refine ⟨v, ?_, rel_more (List.prefix_refl m) hs h12⟩
            rw [h10, if_pos ⟨by omega, by rw [← hll]; omega⟩, show b.2 + j - (b.2 + off) = j - off by omega, h11]
          · rename_i hlt
            obtain ⟨v, h11, h12⟩ := h5 j c hj
            refine ⟨v, ?_, rel_more (List.prefix_refl m) hs h12⟩
            rw [h10, if_neg (by rw [← hll]; omega), h11]
      · cases h
    · cases h
  · cases h

/-- A new block of the call's own. -/
theorem RepH.new {m : Places} {w : World} {H : Heap} (h : RepH C m w H) (e : TypeId) {arr : Array Value} {cs : List AV} (hcs : ∀ (j : Nat) c, cs[j]? = some c → ∃ v, arr[j]? = some v ∧ rel m w c v) (hl : cs.length ≤ arr.size) :
    Fwd C m w (m ++ [(w.heap.size, 0)]) (w.alloc (.cells arr e)) (H ++ [.own e cs]) := by
  have hpre : m <+: m ++ [(w.heap.size, 0)] := List.prefix_append _ _
  have hs : Szs w (w.alloc (.cells arr e)) := fun k a e' fr hk => ⟨a, by
    have hlt : k < w.heap.size := (Array.getElem?_eq_some_iff.1 hk).1
    rw [Below.heap_alloc w _ k hlt]; exact hk, rfl⟩
  have hnew := heap_alloc_new w (.cells arr e)
  have hold : ∀ (o : Nat) x b, H[o]? = some x → m[o]? = some b → x.mine = true → b.1 < w.heap.size := by
    intro o x b hx hb hm
    have hr := h.obj _ _ _ hx hb
    cases x with
    | own e cs => obtain ⟨_, arr, h1, _⟩ := hr; exact (Array.getElem?_eq_some_iff.1 h1).1
    | map es => obtain ⟨_, _, _, h1, _⟩ := hr; exact (Array.getElem?_eq_some_iff.1 h1).1
    | ro _ => simp [AObj.mine] at hm
    | gone => simp [AObj.mine] at hm
  refine ⟨hpre, hs, ⟨h.below.alloc h.size _, by have := h.size; simp; omega, by simp [h.len], fun g hg => get_pre hpre (h.glob g hg), ?_, ?_⟩⟩
  · intro o x b hx hb
    by_cases ho : o < H.length
    · rw [List.getElem?_append_left ho] at hx
      rw [List.getElem?_append_left (by rw [h.len]; exact ho)] at hb
      have hr := h.obj _ _ _ hx hb
      have hk : x ≠ .gone → (w.alloc (.cells arr e)).heap[b.1]? = w.heap[b.1]? := fun hg => by
        refine Below.heap_alloc w _ b.1 ?_
        cases hm : x.mine with
        | true => exact hold o x b hx hb hm
        | false => have := relO_block hr hm hg; have := h.size; omega
      cases x with
      | gone => trivial
      | ro cs => 
        have := relO_far hr hs (hk (by simp))
        exact ⟨this.1, fun j c hj => by
          obtain ⟨v, h1, h2⟩ := this.2 j c hj
          exact ⟨v, h1, rel_more hpre (Szs.refl _) h2⟩⟩
      | own e' cs' =>
        obtain ⟨h0, a, h1, h2, h3⟩ := relO_far hr hs (hk (by simp))
        exact ⟨h0, a, h1, h2, fun j c hj => by
          obtain ⟨v, h4, h5⟩ := h3 j c hj
          exact ⟨v, h4, rel_more hpre (Szs.refl _) h5⟩⟩
      | map es =>
        obtain ⟨h0, ens, clock, h1, h2, h3⟩ := relO_far hr hs (hk (by simp))
        exact ⟨h0, ens, clock, h1, h2, fun j k c hj => by
          obtain ⟨en, h4, h5, h6⟩ := h3 j k c hj
          exact ⟨en, h4, h5, rel_more hpre (Szs.refl _) h6⟩⟩
    · have ho' : o = H.length := by
        have := (List.getElem?_eq_some_iff.1 hx).1
        simp at this; omega
      subst ho'
      rw [List.getElem?_append_right (by omega)] at hx
      rw [List.getElem?_append_right (by rw [h.len]; omega), h.len] at hb
      simp at hx hb
      subst hx; subst hb
      exact ⟨⟨h.size, rfl⟩, arr, hnew, by omega, fun j c hj => by
        obtain ⟨v, h1, h2⟩ := hcs j c hj
        exact ⟨v, by simpa using h1, rel_more hpre hs h2⟩⟩
  · intro o o' x x' b b' hne hx hx' hb hb' hm hm'
    have aux : ∀ (o : Nat) x b, (H ++ [.own e cs])[o]? = some x → (m ++ [(w.heap.size, 0)])[o]? = some b → x.mine = true → (o < H.length ∧ H[o]? = some x ∧ m[o]? = some b) ∨ (o = H.length ∧ b.1 = w.heap.size) := by
      intro o x b hx hb hm
      by_cases ho : o < H.length
      · rw [List.getElem?_append_left ho] at hx
        rw [List.getElem?_append_left (by rw [h.len]; exact ho)] at hb
        exact .inl ⟨ho, hx, hb⟩
      · have ho' : o = H.length := by
          have := (List.getElem?_eq_some_iff.1 hx).1
          simp at this; omega
        subst ho'
        rw [List.getElem?_append_right (by rw [h.len]; omega), h.len] at hb
        simp at hb
        exact .inr ⟨rfl, by rw [← hb]⟩
    rcases aux o x b hx hb hm with ⟨h1, h2, h3⟩ | ⟨h1, h2⟩ <;> rcases aux o' x' b' hx' hb' hm' with ⟨k1, k2, k3⟩ | ⟨k1, k2⟩
    · exact h.apart o o' x x' b b' hne h2 k2 h3 k3 hm hm'
    · have := hold o x b h2 h3 hm; omega
    · have := hold o' x' b' k2 k3 hm'; omega
    · omega
end Go.Proofs.YtlfpjdcogkcjlaaGreatDoor.AL
/-
  Structs, literals, slices, comparisons with nil, maps with string keys: over abstract states as in the machine.
-/
namespace Go.Proofs.YtlfpjdcogkcjlaaGreatDoor.AL
open Go.RowKit
set_option linter.unusedVariables false
set_option linter.unusedSimpArgs false
variable {P : Program} {C : Base}

/-! ### cells filled in -/
theorem foldl_put : ∀ (l : List Value) (off k : Nat) (arr : Array Value), ∃ arr' : Array Value, (l.zipIdx k).foldl (fun cs (c : Value × Nat) => cs.setIfInBounds (off + c.2) c.1) arr = arr' ∧ arr'.size = arr.size ∧
    ∀ j, arr'[j]? = if off + k ≤ j ∧ j < off + k + l.length ∧ j < arr.size then l[j - (off + k)]? else arr[j]?
  | [], off, k, arr => ⟨arr, rfl, rfl, fun j => by rw [if_neg (by simp; omega)]⟩
  | v :: l, off, k, arr => by
    obtain ⟨arr', h1, h2, h3⟩ := foldl_put l off (k + 1) (arr.setIfInBounds (off + k) v)
    refine ⟨arr', by simpa using h1, by simpa using h2, fun j => ?_⟩
    rw [h3 j]
    simp only [Array.size_setIfInBounds, List.length_cons]
    by_cases hj : j = off + k
    · subst hj
      rw [if_neg (by omega)]
      by_cases hs : off + k < arr.size
      · rw [if_pos (by omega)]; simp [hs]
      · rw [if_neg (by omega)]
        rw [Array.getElem?_eq_none (by simp; omega), Array.getElem?_eq_none (by omega)]
    · by_cases h7 : off + (k + 1) ≤ j ∧ j < off + (k + 1) + l.length ∧ j < arr.size
      · rw [if_pos h7, if_pos (by omega), show j - (off + k) = (j - (off + (k + 1))) + 1 by omega]
        simp
      · rw [if_neg h7, if_neg (by omega), Array.getElem?_setIfInBounds_ne (by omega)]

def fillA (place : Nat → Option (Nat × Nat)) (cells : List AV) : List (Nat × List AV) → Option (List AV)
  | [] => some cells
  | (i, l) :: r => match place i with
    | none => none
    | some (off, size) => if l.length = size ∧ off + l.length ≤ cells.length then fillA place (putCells cells off l) r else none

/-- parts of a literal, value by value -/
inductive PartsRel (m : Places) (w : World) : List (Nat × List AV) → List (Nat × Value) → Prop where
  | nil : PartsRel m w [] []
  | cons {i : Nat} {l : List AV} {v : Value} {r : List (Nat × List AV)} {s : List (Nat × Value)} (h : rels m w l v.cells.toList) (k : PartsRel m w r s) : PartsRel m w ((i, l) :: r) ((i, v) :: s)

theorem fillA_fill {m : Places} {w : World} {place : Nat → Option (Nat × Nat)} {r : List (Nat × List AV)} {s : List (Nat × Value)} (h : PartsRel m w r s) :
    ∀ {cells : List AV} {vs : Array Value} {cs : List AV}, rels m w cells vs.toList → fillA place cells r = some cs → ∃ us, Instr.fill place vs s = some us ∧ rels m w cs us.toList := by
  induction h with
  | nil => intro cells vs cs hc hf; simp only [fillA, Option.some.injEq] at hf; subst hf; exact ⟨vs, rfl, hc⟩
  | @cons i l v r s hl hk ih =>
    intro cells vs cs hc hf
    simp only [fillA] at hf
    split at hf
    · cases hf
    · rename_i off size hp
      split at hf
      · rename_i hsz
        have h1 : l.length = v.cells.size := by simpa using rels_length hl
        have h2 : cells.length = vs.size := by simpa using rels_length hc
        obtain ⟨arr', h3, h4, h5⟩ := foldl_put v.cells.toList off 0 vs
        have h6 : rels m w (putCells cells off l) arr'.toList := by
          refine rels_of_get (by rw [putCells_length _ _ _ hsz.2]; simp; omega) fun j c u hj hu => ?_
          rw [putCells_get _ _ _ hsz.2] at hj
          rw [Array.getElem?_toList, h5] at hu
          split at hj
          · rename_i hlt
            rw [if_pos (by simp; omega), show j - (off + 0) = j - off by omega] at hu
            obtain ⟨x, hx, hr⟩ := rels_get hl _ _ hj
            rw [hu] at hx; obtain rfl := Option.some.inj hx; exact hr
          · rename_i hlt
            rw [if_neg (by simp; omega)] at hu
            obtain ⟨x, hx, hr⟩ := rels_get hc _ _ hj
            rw [Array.getElem?_toList, hu] at hx; obtain rfl := Option.some.inj hx; exact hr
        obtain ⟨us, h7, h8⟩ := ih h6 hf
        refine ⟨us, ?_, h8⟩
        have h9 : (v.cells.zipIdx.foldl (fun cs (c : Value × Nat) => cs.setIfInBounds (off + c.2) c.1) vs) = arr' := by
          rw [← h3, ← Array.foldl_toList, Array.toList_zipIdx]
        unfold Instr.fill
        simp only [hp]
        rw [if_neg (by simp; omega)]
        rw [← h7]
        exact congrArg (fun x => Instr.fill place x s) h9
      · cases hf

/-- The places of a struct's fields: first cell and size. -/
def fp (P : Program) (t : TypeId) : Option (List (Nat × Nat)) :=
  match P.underlying t with
  | some (.struct fs) => fs.toList.mapM fun f => (P.info? f.type).map fun i => (f.offset, i.size)
  | _ => none

theorem run_places {w : World} : ∀ (fs : List Field) (l : List (Nat × Nat)), (fs.mapM fun f => (P.info? f.type).map fun i => (f.offset, i.size)) = some l →
    (fs.mapM (m := Sem) fun f => do pure (f.offset, ← sizeOf f.type)).run P w = .ok l w
  | [], l, h => by simp at h; subst h; simp
  | f :: fs, l, h => by
    simp only [List.mapM_cons, Option.bind_eq_bind, Option.bind_eq_some_iff, Option.map_eq_some_iff, Option.pure_def, Option.some.injEq] at h
    obtain ⟨_, ⟨i, hi, rfl⟩, l', h2, rfl⟩ := h
    rw [List.mapM_cons]
    simp only [Sem.run_bind, run_sizeOf hi, Result.andThen_ok, Sem.run_pure, run_places fs l' h2]

theorem run_zero {t : TypeId} {zs : List Value} {w : World} (h : zc P t = some zs) : ∃ z, (zeroValue t).run P w = .ok z w ∧ z.cells.toList = zs := by
  unfold zc at h
  split at h
  · rename_i i hi
    split at h
    · rename_i z hz
      split at h
      · obtain rfl := Option.some.inj h
        exact ⟨z, by simp [zeroValue, typeInfo, hi, hz], rfl⟩
      · cases h
    · cases h
  · cases h

def partsA (env : Env) : List (Nat × Operand) → Option (List (Nat × List AV))
  | [] => some []
  | (i, x) :: r => (avCells (opA env x)).bind fun l => (partsA env r).map ((i, l) :: ·)

theorem opA_rel {m : Places} {w : World} {env : Env} {a : Act} (h : RepE m w env a) {H : Heap} (hH : RepH C m w H) {x : Operand} (hx : ∀ g, x = .global g → g < C.nG) : rel m w (opA env x) (a.eval x) := by
  cases x with
  | tmp t => exact h.get t
  | const v => exact rfl
  | global g => exact ⟨(g, 0), hH.glob g (hx g rfl), rfl⟩
  | func f => exact ⟨#[], #[], rfl, trivial, trivial⟩

/-- No operand is a package-level variable beyond the first nG. -/
def okX (n : Nat) : Operand → Bool
  | .global g => decide (g < n)
  | _ => true
theorem okX_spec {n : Nat} {x : Operand} (h : okX n x = true) : ∀ g, x = .global g → g < n := fun g hg => by subst hg; simpa [okX] using h

theorem partsA_rel {m : Places} {w : World} {env : Env} {a : Act} (h : RepE m w env a) {H : Heap} (hH : RepH C m w H) : ∀ {ps : List (Nat × Operand)} {r : List (Nat × List AV)}, (∀ p ∈ ps, okX C.nG p.2 = true) → partsA env ps = some r →
    PartsRel m w r (ps.map fun p => (p.1, a.eval p.2))
  | [], r, _, hr => by simp [partsA] at hr; subst hr; exact .nil
  | (i, x) :: ps, r, hx, hr => by
    simp only [partsA, Option.bind_eq_some_iff, Option.map_eq_some_iff] at hr
    obtain ⟨l, h1, r', h2, rfl⟩ := hr
    exact .cons (avCells_rel h1 (opA_rel h hH (okX_spec (hx _ (List.mem_cons_self ..))))).1 (partsA_rel h hH (fun p hp => hx p (List.mem_cons_of_mem _ hp)) h2)

/-- An array's elements: how many cells each. -/
def ars (P : Program) (t : TypeId) : Option Nat :=
  match P.underlying t with
  | some (.array _ e) => (P.info? e).map (·.size)
  | _ => none
def buildA (P : Program) (t : TypeId) (parts : List (Nat × List AV)) (H : Heap) : Ans :=
  match zc P t, fp P t with
  | some zs, some ps => match fillA (ps[·]?) (zs.map .val) parts with
    | some cs => some (.agg cs, H)
    | none => none
  | some zs, none => match ars P t with
    | some st => match fillA (fun i => some (i * st, st)) (zs.map .val) parts with
      | some cs => some (.agg cs, H)
      | none => none
    | none => none
  | _, _ => none

theorem buildA_run {t : TypeId} {r : List (Nat × List AV)} {H H' : Heap} {c : AV} (h : buildA P t r H = some (c, H')) {m : Places} {w : World} {ps : Array (Nat × Value)} (hp : PartsRel m w r ps.toList) :
    H' = H ∧ ∃ u, (Instr.build t ps).run P w = .ok u w ∧ rel m w c u := by
  unfold buildA at h
  split at h
  · rename_i zs pl hz hpl
    split at h
    · rename_i cs hcs
      simp only [Option.some.injEq, Prod.mk.injEq] at h
      obtain ⟨rfl, rfl⟩ := h
      obtain ⟨z, hz1, hz2⟩ := run_zero (P := P) (w := w) hz
      unfold fp at hpl
      split at hpl
      · rename_i fs hu
        have hrun := run_places (P := P) (w := w) _ _ hpl
        have hrun2 : (fs.mapM (m := Sem) fun f => do pure (f.offset, ← sizeOf f.type)).run P w = .ok pl.toArray w := by
          rw [Array.mapM_eq_mapM_toList, ← bind_pure_comp, Sem.run_bind, hrun]; rfl
        have hrz : rels m w (zs.map .val) z.cells.toList := by rw [← hz2]; exact rels_val m w _
        obtain ⟨us, h3, h4⟩ := fillA_fill hp hrz hcs
        refine ⟨rfl, .agg us, ?_, us, rfl, h4⟩
        have h5 : Instr.fill (pl.toArray[·]?) z.cells ps.toList = some us := by rw [← h3]; congr 1; funext i; simp
        unfold Instr.build
        simp only [Sem.run_bind, hz1, Result.andThen_ok, run_underlying hu, hrun2, h5, Sem.run_pure]
      · cases hpl
    · cases h
  · rename_i zs hz hfp
    split at h
    · rename_i st hst
      split at h
      · rename_i cs hcs
        simp only [Option.some.injEq, Prod.mk.injEq] at h
        obtain ⟨rfl, rfl⟩ := h
        obtain ⟨z, hz1, hz2⟩ := run_zero (P := P) (w := w) hz
        unfold ars at hst
        split at hst
        · rename_i n e hu
          obtain ⟨i, hi, rfl⟩ := Option.map_eq_some_iff.1 hst
          have hrz : rels m w (zs.map .val) z.cells.toList := by rw [← hz2]; exact rels_val m w _
          obtain ⟨us, h3, h4⟩ := fillA_fill hp hrz hcs
          refine ⟨rfl, .agg us, ?_, us, rfl, h4⟩
          unfold Instr.build
          simp only [Sem.run_bind, hz1, Result.andThen_ok, run_underlying hu, run_sizeOf hi, h3, Sem.run_pure]
        · cases hst
      · cases h
    · cases h
  · cases h
end Go.Proofs.YtlfpjdcogkcjlaaGreatDoor.AL
/-
  Slices: literals, make, cuts, elements' addresses, append; fields.
-/
namespace Go.Proofs.YtlfpjdcogkcjlaaGreatDoor.AL
open Go.RowKit
set_option linter.unusedVariables false
set_option linter.unusedSimpArgs false
variable {P : Program} {C : Base}

theorem el_spec {t e st bytes : Nat} {z : List Value} (h : el P t = some (e, st, bytes, z)) :
    P.underlying t = some (.slice e) ∧ ∃ i zv, P.info? e = some i ∧ i.zero = some zv ∧ zv.cells.size = i.size ∧ i.size = st ∧ i.bytes = bytes ∧ zv.cells.toList = z ∧ 0 < st ∧ ∀ u ∈ z, u.oneCell' = true := by
  unfold el at h
  split at h
  · rename_i e' hu
    split at h
    · rename_i i hi
      split at h
      · rename_i zv hz
        split at h
        · rename_i hc
          simp only [Option.some.injEq, Prod.mk.injEq] at h
          obtain ⟨rfl, rfl, rfl, rfl⟩ := h
          exact ⟨hu, i, zv, hi, hz, hc.1, rfl, rfl, rfl, hc.2.1, fun u hu => by have := hc.2.2; rw [← Array.all_toList] at this; exact List.all_eq_true.1 this u hu⟩
        · cases h
      · cases h
    · cases h
  · cases h

/-- n elements' zeros -/
def zerosN (z : List Value) : Nat → List AV
  | 0 => []
  | k + 1 => zerosN z k ++ z.map .val
theorem zerosN_length (z : List Value) : ∀ k, (zerosN z k).length = k * z.length
  | 0 => by simp [zerosN]
  | k + 1 => by simp [zerosN, zerosN_length z k, Nat.succ_mul]
theorem zerosN_get (z : List Value) (h : 0 < z.length) : ∀ (k j : Nat), j < k * z.length → (zerosN z k)[j]? = some (.val (z.getD (j % z.length) undef))
  | 0, j, hj => by simp at hj
  | k + 1, j, hj => by
    rw [zerosN]
    by_cases hlt : j < k * z.length
    · rw [List.getElem?_append_left (by rw [zerosN_length]; exact hlt)]; exact zerosN_get z h k j hlt
    · rw [List.getElem?_append_right (by rw [zerosN_length]; omega), zerosN_length]
      have h1 : j % z.length = j - k * z.length := by
        obtain ⟨r, rfl⟩ : ∃ r, j = k * z.length + r := ⟨j - k * z.length, by omega⟩
        have : r < z.length := by rw [Nat.succ_mul] at hj; omega
        rw [Nat.mul_comm, Nat.mul_add_mod, Nat.mod_eq_of_lt this]; omega
      have h2 : j - k * z.length < z.length := by rw [Nat.succ_mul] at hj; omega
      simp [List.getElem?_map, h1, List.getElem?_eq_getElem h2]

/-- the machine's row of zeros -/
theorem zeros_rel (m : Places) (w : World) (zv : Value) (n st : Nat) (hst : zv.cells.size = st) (h0 : 0 < st) :
    rels m w (zerosN zv.cells.toList n) ((Array.range (n * st)).map fun x => zv.cells[x % zv.cells.size]!).toList := by
  refine rels_of_get (by simp [zerosN_length, hst]) fun j c u hc hu => ?_
  have hl : zv.cells.toList.length = st := by simpa using hst
  have hj : j < n * st := by
    have := (List.getElem?_eq_some_iff.1 hu).1
    simpa using this
  rw [zerosN_get _ (by omega) n j (by rw [hl]; exact hj)] at hc
  obtain rfl := Option.some.inj hc
  rw [Array.getElem?_toList, Array.getElem?_map, Array.getElem?_range, if_pos hj] at hu
  simp only [Option.map_some, Option.some.injEq] at hu
  have hm : j % st < zv.cells.size := by rw [hst]; exact Nat.mod_lt _ h0
  show u = _
  rw [← hu]
  simp only [Array.length_toList, hst, List.getD_eq_getElem?_getD, Array.getElem?_toList]
  rw [getElem!_pos zv.cells (j % st) hm, Array.getElem?_eq_getElem hm]
  rfl

def buildSliceA (P : Program) (t len : Nat) (parts : List (Nat × List AV)) (H : Heap) : Ans :=
  match el P t with
  | some (e, st, _, z) => if len * st ≤ 16777216 then match fillA (fun i => some (i * st, st)) (zerosN z len) parts with
      | some cs => if cs.length = len * st then some (.sl true H.length 0 len st, H ++ [.own e cs]) else none
      | none => none
    else none
  | none => none

theorem own_slice_rel {m : Places} {w : World} {H : Heap} (hH : RepH C m w H) (e len st cap : Nat) (arr : Array Value) (hl : len ≤ cap) (hc : cap ≤ 9223372036854775807) (ha : arr.size = cap * st) :
    rel (m ++ [(w.heap.size, 0)]) (w.alloc (.cells arr e)) (.sl true H.length 0 len st) (.slice (some ⟨w.heap.size, 0, none⟩) len cap) := by
  refine ⟨(w.heap.size, 0), ⟨w.heap.size, 0, none⟩, cap, ?_, rfl, hl, hc, fun _ => ⟨rfl, arr, e, (0, 0), heap_alloc_new w _, ?_⟩, fun _ => .inr ⟨rfl, arr, e, (0, 0), heap_alloc_new w _, ?_⟩⟩
  · rw [← hH.len]; simp
  · simp [ha]
  · simp [ha]

theorem buildSliceA_run {t len : Nat} {r : List (Nat × List AV)} {H H' : Heap} {c : AV} (h : buildSliceA P t len r H = some (c, H')) {m : Places} {w : World} (hH : RepH C m w H) {ps : Array (Nat × Value)} (hp : PartsRel m w r ps.toList) :
    ∃ u m' w', (Instr.buildSlice t len ps).run P w = .ok u w' ∧ Fwd C m w m' w' H' ∧ rel m' w' c u := by
  unfold buildSliceA at h
  split at h
  · rename_i e st bytes z hel
    split at h
    · rename_i hbig
      split at h
      · rename_i cs hcs
        split at h
        · rename_i hlen
          simp only [Option.some.injEq, Prod.mk.injEq] at h
          obtain ⟨rfl, rfl⟩ := h
          obtain ⟨hu, i, zv, hi, hz, hsz, hst, _, hzl, h0, hone⟩ := el_spec hel
          subst hzl
          have hlz : zv.cells.toList.length = st := by simp; omega
          obtain ⟨us, h3, h4⟩ := fillA_fill hp (zeros_rel m w zv len st (by omega) h0) hcs
          have hus : us.size = len * st := by have := rels_length h4; simp at this; omega
          have hf := hH.new e (arr := us) (cs := cs) (fun j c hj => by
            obtain ⟨v, h5, h6⟩ := rels_get h4 j c hj
            exact ⟨v, by simpa using h5, h6⟩) (by omega)
          refine ⟨.slice (some ⟨w.heap.size, 0, none⟩) len len, _, _, ?_, hf, own_slice_rel hH e len st len us (Nat.le_refl _) (by have := Nat.le_mul_of_pos_right len h0; omega) hus⟩
          have hzr : (zeroValue e).run P w = .ok zv w := by simp [zeroValue, typeInfo, hi, hz]
          have hb : ¬ len * st > 2 ^ 24 := by omega
          unfold Instr.buildSlice
          simp only [Sem.run_bind, run_underlying hu, Result.andThen_ok, run_sizeOf hi, hst]
          rw [if_neg hb]
          by_cases hz0 : len * st = 0
          · rw [if_pos hz0]
            simp only [Sem.run_bind, Sem.run_pure, Result.andThen_ok]
            have h5 : (Array.range (len * st)).map (fun x => (#[] : Array Value)[x % (#[] : Array Value).size]!) = (Array.range (len * st)).map (fun x => zv.cells[x % zv.cells.size]!) := by rw [hz0]; simp
            rw [h5, h3]
            simp [newRow, run_newObj]
          · rw [if_neg hz0]
            simp only [Sem.run_bind, hzr, Sem.run_pure, Result.andThen_ok]
            rw [h3]
            simp [newRow, run_newObj]
        · cases h
      · cases h
    · cases h
  · cases h

def makeSliceA (P : Program) (t : TypeId) (len cap : AV) (H : Heap) : Ans :=
  match el P t, len, cap with
  | some (e, st, bytes, z), .val (.int kl n), .val (.int kc c) => if 0 ≤ n ∧ n ≤ c ∧ bytes * c ≤ 281474976710656 ∧ c ≤ 9223372036854775807 then some (.sl true H.length 0 n.toNat st, H ++ [.own e (zerosN z n.toNat)]) else none
  | _, _, _ => none

theorem makeSliceA_run {t : TypeId} {x y : AV} {H H' : Heap} {c : AV} (h : makeSliceA P t x y H = some (c, H')) {m : Places} {w : World} (hH : RepH C m w H) {u v : Value} (hx : rel m w x u) (hy : rel m w y v) :
    ∃ r m' w', (Instr.makeSlice t u v).run P w = .ok r w' ∧ Fwd C m w m' w' H' ∧ rel m' w' c r := by
  unfold makeSliceA at h
  split at h
  · rename_i e st bytes z kl n kc c' hel
    obtain rfl : u = .int kl n := hx
    obtain rfl : v = .int kc c' := hy
    split at h
    · rename_i hc
      simp only [Option.some.injEq, Prod.mk.injEq] at h
      obtain ⟨rfl, rfl⟩ := h
      obtain ⟨hu, i, zv, hi, hz, hsz, hst, hby, hzl, h0, hone⟩ := el_spec hel
      subst hzl
      obtain ⟨n, rfl⟩ := Int.eq_ofNat_of_zero_le hc.1
      obtain ⟨k, rfl⟩ := Int.eq_ofNat_of_zero_le (show 0 ≤ c' by omega)
      have hrun := run_make (P := P) w t e i zv hu hi hz kl kc n k (by omega) (by omega) (by rw [hby]; exact hc.2.2.1) (by omega)
      simp only [Int.toNat_natCast] at hrun ⊢
      have hr := zeros_rel m w zv k st (by omega) h0
      have hms : (madeCells zv.cells (k * i.size)) = (Array.range (k * st)).map fun x => zv.cells[x % zv.cells.size]! := by rw [hst]; rfl
      rw [hms] at hrun
      have hf := hH.new e (arr := (Array.range (k * st)).map fun x => zv.cells[x % zv.cells.size]!) (cs := zerosN zv.cells.toList n) (fun j c hj => by
        have hlz : zv.cells.toList.length = st := by simp; omega
        have hj2 : j < n * st := by have := (List.getElem?_eq_some_iff.1 hj).1; rwa [zerosN_length, hlz] at this
        have hnk : n * st ≤ k * st := Nat.mul_le_mul_right _ (by omega)
        rw [zerosN_get _ (by omega) n j (by rw [hlz]; exact hj2)] at hj
        obtain ⟨v, h5, h6⟩ := rels_get hr j c (by rw [zerosN_get _ (by omega) k j (by rw [hlz]; omega)]; exact hj)
        exact ⟨v, by rw [← Array.getElem?_toList]; exact h5, h6⟩) (by
          have hnk : n * st ≤ k * st := Nat.mul_le_mul_right _ (by omega)
          have hlz : zv.cells.toList.length = st := by simp; omega
          rw [zerosN_length, hlz]; simpa using hnk)
      exact ⟨_, _, _, hrun, hf, own_slice_rel hH e n st k _ (by omega) (by omega) (by simp)⟩
    · cases h
  · cases h

/-- 's[lo:hi]' of a slice -/
def boundA (d : Nat) : Option AV → Option Nat
  | none => some d
  | some (.val (.int _ i)) => if 0 ≤ i then some i.toNat else none
  | _ => none
def sliceA (P : Program) (t : TypeId) (x : AV) (lo hi : Option AV) (H : Heap) : Ans :=
  match x with
  | .sl own o off len st => match el P t, boundA 0 lo, boundA len hi with
    | some (_, st', _, _), some l, some h => if l ≤ h ∧ h ≤ len ∧ st' = st then some (.sl own o (off + l * st) (h - l) st, H) else none
    | _, _, _ => none
  | .val (.slice none 0 0) => match el P t, boundA 0 lo, boundA 0 hi with
    | some _, some 0, some 0 => some (.val (.slice none 0 0), H)
    | _, _, _ => none
  | .val (.string s) => match P.underlying t, boundA 0 lo, boundA s.size hi with
    | some .string, some l, some h => if l ≤ h ∧ h ≤ s.size then some (.val (.string (s.extract l h)), H) else none
    | _, _, _ => none
  | _ => none

theorem run_sliceAt {t : TypeId} {x : Value} {lo hi mx : Option Value} {w : World} {d : TypeDesc} (h : P.underlying t = some d) (hn : ∀ n e, d ≠ .array n e) : (Instr.sliceAt t x lo hi mx).run P w = (Instr.slice t x lo hi mx).run P w := by
  unfold Instr.sliceAt
  rw [Sem.run_bind, run_underlying h, Result.andThen_ok]
  cases d <;> simp_all

theorem run_sliceBounds_ok {isSlice : Bool} {len cap l h : Nat} {lo hi : Option Value} {w : World} (hl : (lo = none ∧ l = 0) ∨ ∃ k, lo = some (.int k (l : Int))) (hh : (hi = none ∧ h = len) ∨ ∃ k, hi = some (.int k (h : Int))) (h1 : l ≤ h) (h2 : h ≤ cap) :
    (Instr.sliceBounds isSlice len cap lo hi none).run P w = .ok (l, h, cap) w := by
  rcases hl with ⟨rfl, rfl⟩ | ⟨k, rfl⟩ <;> rcases hh with ⟨rfl, rfl⟩ | ⟨k', rfl⟩
  · simp [Instr.sliceBounds]
  · simp [Instr.sliceBounds, run_sliceBound (P := P) _ k' h cap _ (by omega) (by omega)]
  · simp [Instr.sliceBounds, run_sliceBound (P := P) _ k l h _ (by omega) (by omega)]
  · simp [Instr.sliceBounds, run_sliceBound (P := P) _ k' h cap _ (by omega) (by omega), run_sliceBound (P := P) _ k l h _ (by omega) (by omega)]

def relOpt (m : Places) (w : World) : Option AV → Option Value → Prop
  | none, none => True
  | some c, some u => rel m w c u
  | _, _ => False
theorem boundA_rel {d n : Nat} {x : Option AV} {m : Places} {w : World} {v : Option Value} (h : boundA d x = some n) (hr : relOpt m w x v) :
    (v = none ∧ n = d) ∨ ∃ k, v = some (.int k (n : Int)) := by
  cases x with
  | none => cases v with
    | none => exact .inl ⟨rfl, (Option.some.inj h).symm⟩
    | some _ => exact hr.elim
  | some c => cases v with
    | none => exact hr.elim
    | some u => cases c with
      | val x => cases x with
        | int k i =>
          obtain rfl : u = .int k i := hr
          simp only [boundA] at h
          split at h
          · rename_i h0
            obtain rfl := Option.some.inj h
            exact .inr ⟨k, by rw [Int.toNat_of_nonneg h0]⟩
          · cases h
        | _ => simp [boundA] at h
      | _ => simp [boundA] at h

theorem Room.mono {w : World} {b n k : Nat} (h : Room w b n) (hk : k ≤ n) : Room w b k := by
  obtain ⟨arr, e, fr, h1, h2⟩ := h
  exact ⟨arr, e, fr, h1, by omega⟩

theorem sliceA_run {t : TypeId} {x : AV} {lo hi : Option AV} {H H' : Heap} {c : AV} (h : sliceA P t x lo hi H = some (c, H')) {m : Places} {w : World} {u : Value} {vl vh : Option Value}
    (hx : rel m w x u) (hl : relOpt m w lo vl) (hh : relOpt m w hi vh) : H' = H ∧ ∃ r, (Instr.sliceAt t u vl vh none).run P w = .ok r w ∧ rel m w c r := by
  unfold sliceA at h
  split at h
  · rename_i own o off len st
    obtain ⟨b, a, cap, hb, rfl, hlc, hc63, hroom, hfull⟩ := hx
    split at h
    · rename_i e st' by' z l hi' hel hbl hbh
      split at h
      · rename_i hc
        obtain ⟨hlh, hhl, rfl⟩ := hc
        simp only [Option.some.injEq, Prod.mk.injEq] at h
        obtain ⟨rfl, rfl⟩ := h
        obtain ⟨hu, i, zv, hi, hz, hsz, hst, _, hzl, h0, _⟩ := el_spec hel
        have hbnd := run_sliceBounds_ok (P := P) (isSlice := true) (len := len) (cap := cap) (w := w) (boundA_rel hbl hl) (boundA_rel hbh hh) hlh (by omega)
        refine ⟨rfl, .slice (if cap = l then some a else (some a).map (·.add (l * st'))) (hi' - l) (cap - l), ?_, ?_⟩
        · rw [run_sliceAt hu (by simp)]
          unfold Instr.slice
          simp only [Sem.run_bind, run_underlying hu, Result.andThen_ok, hbnd, run_sizeOf hi, hst, Sem.run_pure]
        · by_cases hcl : cap = l
          · rw [if_pos hcl]
            refine ⟨b, a, cap - l, hb, rfl, by omega, by omega, fun h => by omega, fun ho => ?_⟩
            rcases Nat.eq_zero_or_pos l with hl0 | hl0
            · subst hl0
              rcases hfull ho with h1 | ⟨h1, h2⟩
              · exact .inl ⟨by omega, by omega⟩
              · exact .inr ⟨by simpa using h1, by simpa using h2⟩
            · exact .inl ⟨by omega, by have := Nat.mul_pos hl0 h0; omega⟩
          · rw [if_neg hcl]
            obtain ⟨ha, hr⟩ := hroom (by omega)
            subst ha
            have e1 : b.2 + (off + l * st') + (cap - l) * st' = b.2 + off + cap * st' := by
              obtain ⟨k, rfl⟩ : ∃ k, cap = l + k := ⟨cap - l, by omega⟩
              rw [Nat.add_sub_cancel_left, Nat.add_mul]; omega
            refine ⟨b, ⟨b.1, b.2 + (off + l * st'), none⟩, cap - l, hb, ?_, by omega, by omega, fun _ => ⟨rfl, by rw [e1]; exact hr⟩, fun ho => .inr ⟨rfl, by rw [e1]; exact (hfull ho).elim (fun h1 => absurd h1.1 (by omega)) (fun h1 => h1.2)⟩⟩
            simp only [Option.map_some, add_at, Nat.add_assoc]
      · cases h
    · cases h
  · obtain rfl : u = .slice none 0 0 := hx
    split at h
    · rename_i q hel hbl hbh
      obtain ⟨e, st, by', z⟩ := q
      simp only [Option.some.injEq, Prod.mk.injEq] at h
      obtain ⟨rfl, rfl⟩ := h
      obtain ⟨hu, i, zv, hi, hz, hsz, hst, _, hzl, h0, _⟩ := el_spec hel
      have hbnd := run_sliceBounds_ok (P := P) (isSlice := true) (len := 0) (cap := 0) (w := w) (boundA_rel hbl hl) (boundA_rel hbh hh) (Nat.le_refl _) (Nat.le_refl _)
      refine ⟨rfl, .slice none 0 0, ?_, rfl⟩
      rw [run_sliceAt hu (by simp)]
      unfold Instr.slice
      simp only [Sem.run_bind, run_underlying hu, Result.andThen_ok, hbnd, run_sizeOf hi, hst, Sem.run_pure]
      simp
    · cases h
  · rename_i s
    obtain rfl : u = .string s := hx
    split at h
    · rename_i l hi' hu hbl hbh
      split at h
      · rename_i hc
        simp only [Option.some.injEq, Prod.mk.injEq] at h
        obtain ⟨rfl, rfl⟩ := h
        have hbnd := run_sliceBounds_ok (P := P) (isSlice := false) (len := s.size) (cap := s.size) (w := w) (boundA_rel hbl hl) (boundA_rel hbh hh) hc.1 hc.2
        refine ⟨rfl, .string (s.extract l hi'), ?_, rfl⟩
        rw [run_sliceAt hu (by simp)]
        unfold Instr.slice
        simp only [Sem.run_bind, run_underlying hu, Result.andThen_ok, hbnd, Sem.run_pure]
        simp [hbnd]
      · cases h
    · cases h
  · cases h

/-- an array type's length and element's cells -/
def ar (P : Program) (t : TypeId) : Option (Nat × Nat) :=
  match P.underlying t with
  | some (.array n e) => (P.info? e).map fun i => (n, i.size)
  | _ => none
def indexAddrA (P : Program) (t : TypeId) (x i : AV) (H : Heap) : Ans :=
  match x, i with
  | .sl own o off len st, .val (.int k n) => match el P t with
    | some (_, st', _, _) => if 0 ≤ n ∧ n < len ∧ st' = st then some (.ptr o (off + n.toNat * st), H) else none
    | none => none
  | .ptr o off, .val (.int k n) => match ar P t with
    | some (len, st) => if 0 ≤ n ∧ n < len then some (.ptr o (off + n.toNat * st), H) else none
    | none => none
  | _, _ => none
theorem run_asIntOf {k : IntKind} {n : Int} {w : World} : (asIntOf (.int k n)).run P w = .ok (k, n) w := rfl
theorem indexAddrA_run {t : TypeId} {x i : AV} {H H' : Heap} {c : AV} (h : indexAddrA P t x i H = some (c, H')) {m : Places} {w : World} {u v : Value} (hx : rel m w x u) (hi : rel m w i v) :
    H' = H ∧ ∃ r, (Instr.indexAt t u v).run P w = .ok r w ∧ rel m w c r := by
  unfold indexAddrA at h
  split at h
  · rename_i own o off len st k n
    obtain ⟨b, a, cap, hb, rfl, hlc, hc63, hroom, hfull⟩ := hx
    obtain rfl : v = .int k n := hi
    split at h
    · rename_i e st' by' z hel
      split at h
      · rename_i hc
        obtain ⟨h0, hn, rfl⟩ := hc
        simp only [Option.some.injEq, Prod.mk.injEq] at h
        obtain ⟨rfl, rfl⟩ := h
        obtain ⟨hu, i, zv, hi, hz, hsz, hst, _, hzl, _, _⟩ := el_spec hel
        obtain ⟨ha, _⟩ := hroom (by omega)
        subst ha
        refine ⟨rfl, .pointer (some ⟨b.1, b.2 + (off + n.toNat * st'), none⟩), ?_, b, hb, rfl⟩
        unfold Instr.indexAt
        simp only [Sem.run_bind, run_asIntOf, run_underlying hu, Result.andThen_ok, Sem.run_pure]
        rw [if_pos ⟨h0, by simpa using hn⟩]
        simp only [Sem.run_bind, run_sizeOf hi, hst, Result.andThen_ok, Sem.run_pure, add_at, Nat.add_assoc]
      · cases h
    · cases h
  · rename_i o off k n
    obtain ⟨b, hb, rfl⟩ := hx
    obtain rfl : v = .int k n := hi
    split at h
    · rename_i len st har
      split at h
      · rename_i hc
        simp only [Option.some.injEq, Prod.mk.injEq] at h
        obtain ⟨rfl, rfl⟩ := h
        unfold ar at har
        split at har
        · rename_i n' e hu
          obtain ⟨i, hi, he⟩ := Option.map_eq_some_iff.1 har
          simp only [Prod.mk.injEq] at he
          obtain ⟨rfl, rfl⟩ := he
          refine ⟨rfl, .pointer (some ⟨b.1, b.2 + (off + n.toNat * i.size), none⟩), ?_, b, hb, rfl⟩
          unfold Instr.indexAt
          simp only [Sem.run_bind, run_asIntOf, run_underlying hu, Result.andThen_ok, Sem.run_pure, Instr.sureAddr]
          rw [if_pos ⟨hc.1, by simpa using hc.2⟩]
          simp only [Sem.run_bind, run_sizeOf hi, Result.andThen_ok, Sem.run_pure, add_at, Nat.add_assoc]
        · cases har
      · cases h
    · cases h
  · cases h

def fieldAddrA (P : Program) (s : TypeId) (x : AV) (f : Nat) (H : Heap) : Ans :=
  match x, fo P s f with
  | .ptr o off, some k => some (.ptr o (off + k), H)
  | _, _ => none
theorem fieldAddrA_run {s f : Nat} {x : AV} {H H' : Heap} {c : AV} (h : fieldAddrA P s x f H = some (c, H')) {m : Places} {w : World} {u : Value} (hx : rel m w x u) :
    H' = H ∧ ∃ r, (Instr.fieldAt s u f).run P w = .ok r w ∧ rel m w c r := by
  unfold fieldAddrA at h
  split at h
  · rename_i o off k hfo
    obtain ⟨b, hb, rfl⟩ := hx
    simp only [Option.some.injEq, Prod.mk.injEq] at h
    obtain ⟨rfl, rfl⟩ := h
    unfold fo at hfo
    split at hfo
    · rename_i fs hu
      split at hfo
      · rename_i y hy
        split at hfo
        · rename_i i hi
          split at hfo
          · cases hfo
          · rename_i hne
            obtain rfl := Option.some.inj hfo
            refine ⟨rfl, .pointer (some ⟨b.1, b.2 + (off + y.offset), none⟩), ?_, b, hb, rfl⟩
            unfold Instr.fieldAt
            simp only [Sem.run_bind, run_underlying hu, Result.andThen_ok, hy, Instr.sureAddr, Sem.run_pure, fieldPlace, run_sizeOf hi]
            rw [if_neg hne]
            simp only [Sem.run_bind, Sem.run_pure, Result.andThen_ok, add_at, Nat.add_assoc]
        · cases hfo
      · cases hfo
    · cases hfo
  · cases h
end Go.Proofs.YtlfpjdcogkcjlaaGreatDoor.AL
/-
  append over abstract states.
-/
namespace Go.Proofs.YtlfpjdcogkcjlaaGreatDoor.AL
open Go.RowKit
set_option linter.unusedVariables false
set_option linter.unusedSimpArgs false
variable {P : Program} {C : Base}

theorem szs_drew (w : World) : Szs w w.drew := fun b a e fr h => ⟨a, h, rfl⟩
theorem szs_drewN (w : World) (n : Nat) : Szs w (w.drewN n) := fun b a e fr h => ⟨a, h, rfl⟩
theorem RepH.drew {m : Places} {w : World} {H : Heap} (h : RepH C m w H) : RepH C m w.drew H := ⟨h.below.drew, h.size, h.len, h.glob, fun o x b hx hb => relO_far (h.obj o x b hx hb) (szs_drew w) rfl, h.apart⟩
theorem RepH.drewN {m : Places} {w : World} {H : Heap} (h : RepH C m w H) (n : Nat) : RepH C m (w.drewN n) H := ⟨⟨h.below.os, h.below.tape, h.below.output, h.below.size, h.below.block⟩, h.size, h.len, h.glob, fun o x b hx hb => relO_far (h.obj o x b hx hb) (szs_drewN w n) rfl, h.apart⟩
theorem RepH.kill {m : Places} {w : World} {H : Heap} (h : RepH C m w H) (o : Nat) : RepH C m w (H.set o .gone) := by
  have aux : ∀ (q : Nat) x, (H.set o .gone)[q]? = some x → x = .gone ∨ H[q]? = some x := by
    intro q x hx
    by_cases hq : q = o
    · subst hq
      rcases Nat.lt_or_ge q H.length with h1 | h1
      · rw [List.getElem?_set_self h1] at hx; exact .inl (Option.some.inj hx).symm
      · rw [List.getElem?_eq_none (by simpa using h1)] at hx; cases hx
    · rw [List.getElem?_set_ne (by omega)] at hx; exact .inr hx
  refine ⟨h.below, h.size, by simpa using h.len, h.glob, fun q x b hx hb => ?_, fun q q' x x' b b' hne hx hx' hb hb' hm hm' => ?_⟩
  · rcases aux q x hx with rfl | h1
    · trivial
    · exact h.obj q x b h1 hb
  · rcases aux q x hx with rfl | h1
    · simp [AObj.mine] at hm
    · rcases aux q' x' hx' with rfl | h2
      · simp [AObj.mine] at hm'
      · exact h.apart q q' x x' b b' hne h1 h2 hb hb' hm hm'

theorem relO_pre {m m' : Places} {w : World} {b : Nat × Nat} {x : AObj} (h : relO C m w b x) (hp : m <+: m') : relO C m' w b x := by
  cases x with
  | ro cs => exact ⟨h.1, fun j c hj => by obtain ⟨v, h1, h2⟩ := h.2 j c hj; exact ⟨v, h1, rel_more hp (Szs.refl _) h2⟩⟩
  | own e cs => obtain ⟨h0, a, h1, h2, h3⟩ := h; exact ⟨h0, a, h1, h2, fun j c hj => by obtain ⟨v, h4, h5⟩ := h3 j c hj; exact ⟨v, h4, rel_more hp (Szs.refl _) h5⟩⟩
  | map es => obtain ⟨h0, a, c, h1, h2, h3⟩ := h; exact ⟨h0, a, c, h1, h2, fun j k c hj => by obtain ⟨v, h4, h5, h6⟩ := h3 j k c hj; exact ⟨v, h4, h5, rel_more hp (Szs.refl _) h6⟩⟩
  | gone => trivial

theorem RepH.rename {m : Places} {w : World} {H : Heap} (h : RepH C m w H) {o : Nat} {e : TypeId} {cs : List AV} {b : Nat × Nat} (ho : H[o]? = some (.own e cs)) (hb : m[o]? = some b) :
    RepH C (m ++ [b]) w (H.set o .gone ++ [.own e cs]) := by
  have hk := h.kill o
  have hl : (H.set o .gone).length = m.length := hk.len.symm
  have hp : m <+: m ++ [b] := List.prefix_append _ _
  have split : ∀ (q : Nat) x b', (H.set o .gone ++ [AObj.own e cs])[q]? = some x → (m ++ [b])[q]? = some b' → (q < m.length ∧ (H.set o .gone)[q]? = some x ∧ m[q]? = some b') ∨ (q = m.length ∧ x = .own e cs ∧ b' = b) := by
    intro q x b' hx hb'
    by_cases hq : q < m.length
    · rw [List.getElem?_append_left (by omega)] at hx
      rw [List.getElem?_append_left hq] at hb'
      exact .inl ⟨hq, hx, hb'⟩
    · have : q = m.length := by have := (List.getElem?_eq_some_iff.1 hb').1; simp at this; omega
      subst this
      rw [List.getElem?_append_right (by omega), hl] at hx
      rw [List.getElem?_append_right (by omega)] at hb'
      simp at hx hb'
      exact .inr ⟨rfl, hx.symm, hb'.symm⟩
  have old : ∀ (q : Nat) x, (H.set o .gone)[q]? = some x → x.mine = true → q ≠ o ∧ H[q]? = some x := by
    intro q x hx hm
    by_cases hq : q = o
    · subst hq
      rw [List.getElem?_set_self (List.getElem?_eq_some_iff.1 ho).1] at hx
      obtain rfl := Option.some.inj hx
      simp [AObj.mine] at hm
    · rw [List.getElem?_set_ne (by omega)] at hx; exact ⟨hq, hx⟩
  refine ⟨h.below, h.size, by simp [h.len], fun g hg => get_pre hp (h.glob g hg), fun q x b' hx hb' => ?_, fun q q' x x' b1 b2 hne hx hx' h1 h2 hm hm' => ?_⟩
  · rcases split q x b' hx hb' with ⟨_, h1, h2⟩ | ⟨_, rfl, rfl⟩
    · exact relO_pre (hk.obj q x b' h1 h2) hp
    · exact relO_pre (h.obj o _ _ ho hb) hp
  · rcases split q x b1 hx h1 with ⟨_, k1, k2⟩ | ⟨k0, rfl, rfl⟩ <;> rcases split q' x' b2 hx' h2 with ⟨_, k3, k4⟩ | ⟨k5, rfl, rfl⟩
    · exact hk.apart q q' x x' b1 b2 hne k1 k3 k2 k4 hm hm'
    · obtain ⟨n1, n2⟩ := old q x k1 hm
      exact h.apart q o x _ b1 _ n1 n2 ho k2 hb hm rfl
    · obtain ⟨n1, n2⟩ := old q' x' k3 hm'
      exact (h.apart q' o x' _ b2 _ n1 n2 ho k4 hb hm' rfl).symm
    · omega

def isNil : AV → Bool
  | .val (.slice none 0 0) => true
  | _ => false
def appendA (P : Program) (t : TypeId) (x y : AV) (H : Heap) : Ans :=
  match el P t with
  | none => none
  | some (e, st, bytes, z) =>
    match y with
    | .val (.slice none 0 0) => match x with
      | .val (.slice none 0 0) => some (x, H)
      | .sl true o 0 n st' => some (x, H)
      | _ => none
    | .sl own o' off' n' st' => match cellsOf H o' with
      | some cs' => if off' + n' * st ≤ cs'.length ∧ st' = st ∧ (((cs'.drop off').take (n' * st)).all AV.one) = true then
          match x with
          | .val (.slice none 0 0) => if n' = 0 then some (.val (.slice none 0 0), H) else
              if n' * bytes ≤ 140737488355328 ∧ n' ≤ 140737488355328 then some (.sl true H.length 0 n' st, H ++ [.own e ((cs'.drop off').take (n' * st))]) else none
          | .sl true o 0 n st2 => match H[o]? with
            | some (.own e2 cs) => if e2 = e ∧ st2 = st ∧ n * st ≤ cs.length ∧ (n + n') * bytes ≤ 140737488355328 ∧ n + n' ≤ 140737488355328 then
                some (.sl true H.length 0 (n + n') st, H.set o .gone ++ [.own e (cs.take (n * st) ++ (cs'.drop off').take (n' * st))]) else none
            | _ => none
          | _ => none
        else none
      | none => none
    | _ => none

theorem szs_alloc (w : World) (o : Obj) : Szs w (w.alloc o) := fun k a e' fr hk => ⟨a, by
  have hlt : k < w.heap.size := (Array.getElem?_eq_some_iff.1 hk).1
  rw [Below.heap_alloc w _ k hlt]; exact hk, rfl⟩

theorem room_slice {m : Places} {w : World} {own : Bool} {o off len st : Nat} {u : Value} (h : rel m w (.sl own o off len st) u) : ∃ b a cap, m[o]? = some b ∧ u = .slice (some a) len cap ∧ len ≤ cap ∧ cap ≤ 9223372036854775807 ∧ (0 < len → a = ⟨b.1, b.2 + off, none⟩) := by
  obtain ⟨b, a, cap, h1, h2, h3, h4, h5, _⟩ := h
  exact ⟨b, a, cap, h1, h2, h3, h4, fun hl => (h5 (by omega)).1⟩

/-- where a new row is laid by growing -/
theorem grown_row {m : Places} {w : World} {H : Heap} (hH : RepH C m w H) {e need st : Nat} {cap : Nat} {cells : List AV} {vals : List Value} {tail : Array Value} (hr : rels m w cells vals) (hl : vals.length = need * st) (hnc : need ≤ cap) (hc : cap ≤ 9223372036854775807) (ht : tail.size = (cap - need) * st) :
    Fwd C m w (m ++ [(w.heap.size, 0)]) (w.drew.alloc (.cells (vals.toArray ++ tail) e)) (H ++ [.own e cells]) ∧
    rel (m ++ [(w.heap.size, 0)]) (w.drew.alloc (.cells (vals.toArray ++ tail) e)) (.sl true H.length 0 need st) (.slice (some ⟨w.heap.size, 0, none⟩) need cap) := by
  have hf := (hH.drew).new e (arr := vals.toArray ++ tail) (cs := cells) (fun j c hj => by
    obtain ⟨v, h1, h2⟩ := rels_get hr j c hj
    have hlt : j < vals.length := (List.getElem?_eq_some_iff.1 h1).1
    exact ⟨v, by rw [Array.getElem?_append_left (by simpa using hlt)]; simpa using h1, rel_more (List.prefix_refl m) (szs_drew w) h2⟩) (by have := rels_length hr; simp; omega)
  have hrel := own_slice_rel (hH.drew) e need st cap (vals.toArray ++ tail) hnc hc (by
    simp [hl, ht, ← Nat.add_mul]; congr 1; omega)
  exact ⟨⟨hf.pre, fun b a e fr h => hf.szs b a e fr h, hf.rep⟩, hrel⟩

theorem appendA_run {t ty : TypeId} {x y : AV} {H H' : Heap} {c : AV} (h : appendA P t x y H = some (c, H')) {m : Places} {w : World} (hH : RepH C m w H) {u v : Value} (hx : rel m w x u) (hy : rel m w y v) :
    ∃ r m' w', (Builtin.append_ #[t, t] ty #[u, v]).run P w = .ok r w' ∧ Fwd C m w m' w' H' ∧ rel m' w' c r := by
  unfold appendA at h
  split at h
  · cases h
  rename_i e st bytes z hel
  obtain ⟨hu, i, zv, hi, hz, hsz, hst, hby, hzl, h0, hone⟩ := el_spec hel
  have same : ∀ {q : AV} {uq : Value}, rel m w q uq → Fwd C m w m w H ∧ rel m w q uq := fun hq => ⟨⟨List.prefix_refl m, Szs.refl w, hH⟩, hq⟩
  split at h
  · obtain rfl : v = .slice none 0 0 := hy
    split at h
    · obtain rfl : u = .slice none 0 0 := hx
      simp only [Option.some.injEq, Prod.mk.injEq] at h
      obtain ⟨rfl, rfl⟩ := h
      refine ⟨_, m, w, ?_, same rfl⟩
      simp [Builtin.append_, run_underlying hu, sizeOf, typeInfo, hi, Builtin.lenOf, Builtin.firstCells]
    · simp only [Option.some.injEq, Prod.mk.injEq] at h
      obtain ⟨rfl, rfl⟩ := h
      have hx' := hx
      obtain ⟨b, a, cap, hb, rfl, hlc, hc63, hroom, _⟩ := hx'
      refine ⟨_, m, w, ?_, same hx⟩
      simp [Builtin.append_, run_underlying hu, sizeOf, typeInfo, hi, Builtin.lenOf, Builtin.firstCells, hlc, storeCells]
    · cases h
  · rename_i own o' off' n' st'
    split at h
    · rename_i cs' hcs'
      split at h
      · rename_i hc
        obtain ⟨hle, rfl, hall⟩ := hc
        obtain ⟨b', a', cap', hb', rfl, hlc', hc63', ha'⟩ := room_slice hy
        obtain ⟨ys, hyl, hyc, hyr⟩ := hH.cells hcs' hb' (n' * st') off' hle
        have hone' := rels_one hall hyr
        have hnews : ∀ j u, ys[j]? = some u → w.cell? (a'.add j) = some u := by
          intro j u hj
          have hjl : j < ys.length := (List.getElem?_eq_some_iff.1 hj).1
          have hn0 : 0 < n' := by
            rcases Nat.eq_zero_or_pos n' with h | h
            · subst h; simp at hyl; subst hyl; simp at hjl
            · exact h
          rw [ha' hn0, add_at, Nat.add_assoc]
          exact hyc j u hj
        split at h
        · obtain rfl : u = .slice none 0 0 := hx
          split at h
          · rename_i hn0
            subst hn0
            simp only [Option.some.injEq, Prod.mk.injEq] at h
            obtain ⟨rfl, rfl⟩ := h
            refine ⟨_, m, w, ?_, same rfl⟩
            simp [Builtin.append_, run_underlying hu, sizeOf, typeInfo, hi, Builtin.lenOf, Builtin.firstCells, loadCells, loadCellsFrom]
          · rename_i hn0
            split at h
            · rename_i hb
              simp only [Option.some.injEq, Prod.mk.injEq] at h
              obtain ⟨rfl, rfl⟩ := h
              have hrun := run_append_nil (P := P) w t ty e i zv hu hi hz a' n' cap' ys (by rw [hyl, hst]) hnews (by omega) (by omega) (by rw [hby]; omega)
              have hg := grownCap_ge w n' 0 e
              have hg2 := grownCap_le_maxLen w n' 0 e (by simp only [maxLen]; omega)
              obtain ⟨hf, hr⟩ := grown_row hH (e := e) (need := n') (st := st') (cap := grownCap w n' 0 e) (tail := Builtin.zeroCells zv.cells (grownCap w n' 0 e - n')) hyr hyl hg (by simpa only [maxLen] using hg2) (by rw [size_zeroCells, hsz, hst])
              exact ⟨_, _, _, hrun, hf, hr⟩
            · cases h
        · rename_i o n st2
          split at h
          · rename_i e2 cs ho
            split at h
            · rename_i hb
              obtain ⟨rfl, rfl, hnl, hbig, hbig2⟩ := hb
              simp only [Option.some.injEq, Prod.mk.injEq] at h
              obtain ⟨rfl, rfl⟩ := h
              obtain ⟨b, a, cap, hb, rfl, hlc, hc63, hroom, hfull⟩ := hx
              obtain ⟨ha, arrF, eF, frF, hhF, hsF⟩ := (hfull rfl).resolve_left (by omega)
              subst ha
              obtain ⟨hB, arr, hh, hla, hcells⟩ := hH.obj _ _ _ ho hb
              rw [hh] at hhF
              injection hhF with hhF
              injection hhF with q1 q2 q3
              subst q1
              obtain ⟨xs, hxl, hxc, hxr⟩ := hH.cells (show cellsOf H o = some cs by simp [cellsOf, ho]) hb (n * st2) 0 (by omega)
              simp only [List.drop_zero] at hxr
              have hb2 : b.2 = 0 := hB.2
              have hrels := rels_append hxr hyr
              by_cases hfit : n + n' ≤ cap
              · have hrun := run_append_room (P := P) w t ty e2 i hu hi b.1 n cap arr hh a' n' cap' ys (by rw [hyl, hst]) hnews hone' hfit (by rw [hyl, hst, ← Nat.add_mul]; have := Nat.mul_le_mul_right st2 hfit; omega)
                have hb1 : (⟨b.1, b.2 + 0, none⟩ : Addr) = ⟨b.1, 0, none⟩ := by rw [hb2]
                rw [hst, hyl] at hrun
                have htk : arr.toList.take (n * st2) = xs := by
                  refine List.ext_getElem? fun j => ?_
                  by_cases hj : j < n * st2
                  · rw [List.getElem?_take_of_lt hj]
                    have h1 : xs[j]? = some (xs[j]'(by omega)) := List.getElem?_eq_getElem (by omega)
                    have h2 := hxc j _ h1
                    rw [h1]
                    simpa [World.cell?, hh, hb2] using h2
                  · rw [List.getElem?_eq_none (by simp; omega), List.getElem?_eq_none (by omega)]
                have hfitc : (n + n') * st2 ≤ cap * st2 := Nat.mul_le_mul_right st2 hfit
                have hadd : (n + n') * st2 = n * st2 + n' * st2 := Nat.add_mul ..
                rw [htk] at hrun
                generalize harr : (xs ++ ys ++ arr.toList.drop (n * st2 + n' * st2)).toArray = arr' at hrun
                have hsz' : arr'.size = arr.size := by rw [← harr]; simp; omega
                have hnew := setRow_heap w b.1 arr arr' e2 (0, 0) hh
                have hfar : ∀ k, k ≠ b.1 → (w.setRow b.1 arr').heap[k]? = w.heap[k]? := fun k hk => setRow_other w b.1 k arr' hk
                have hs : Szs w (w.setRow b.1 arr') := fun k a e' fr hk => by
                  by_cases he : k = b.1
                  · subst he
                    rw [hh] at hk
                    injection hk with hk
                    injection hk with q1 q2 q3
                    subst q1; subst q2; subst q3
                    exact ⟨arr', hnew, hsz'⟩
                  · exact ⟨a, (hfar k he).trans hk, rfl⟩
                have hturn := hH.turn (cs' := cs.take (n * st2) ++ (cs'.drop off').take (n' * st2)) (w' := w.setRow b.1 arr') ho hb rfl rfl rfl (by simp [World.setRow]) hfar hs (by
                  refine ⟨arr', hnew, by have := rels_length hrels; rw [this, hsz']; simp; omega, fun j c hj => ?_⟩
                  obtain ⟨v, h1, h2⟩ := rels_get hrels j c hj
                  refine ⟨v, ?_, rel_more (List.prefix_refl m) hs h2⟩
                  have hlt : j < (xs ++ ys).length := (List.getElem?_eq_some_iff.1 h1).1
                  rw [hb2, Nat.zero_add, ← harr]
                  simp only [List.getElem?_toArray]
                  rw [List.getElem?_append_left hlt]; exact h1)
                have hlt : o < H.length := (List.getElem?_eq_some_iff.1 ho).1
                have hren := hturn.rename (List.getElem?_set_self hlt) hb
                rw [List.set_set] at hren
                refine ⟨_, m ++ [b], _, by rw [hb1]; exact hrun, ⟨List.prefix_append _ _, hs, hren⟩, ?_⟩
                refine ⟨b, ⟨b.1, 0, none⟩, cap, by rw [← hH.len]; simp, rfl, hfit, hc63, fun _ => ⟨by rw [hb2], arr', e2, (0, 0), hnew, by rw [hsz']; omega⟩, fun _ => .inr ⟨by rw [hb2], arr', e2, (0, 0), hnew, by rw [hsz']; omega⟩⟩
              · have hrun := run_append_grow (P := P) w t ty e2 i zv hu hi hz ⟨b.1, b.2 + 0, none⟩ n cap xs (by rw [hxl, hst]) (fun j u hj => by rw [add_at]; simpa using hxc j u hj) a' n' cap' ys (by rw [hyl, hst]) hnews (by omega) (by omega) (growslice_fits (by omega) (by rw [hby]; exact hbig))
                have hg := grownCap_ge w (n + n') cap e2
                have hg2 := grownCap_le_maxLen w (n + n') cap e2 (by simp only [maxLen]; omega)
                obtain ⟨hf, hr⟩ := grown_row (hH.kill o) (e := e2) (need := n + n') (st := st2) (cap := grownCap w (n + n') cap e2) (tail := Builtin.zeroCells zv.cells (grownCap w (n + n') cap e2 - (n + n'))) hrels (by simp [hxl, hyl, Nat.add_mul]) hg (by simpa only [maxLen] using hg2) (by rw [size_zeroCells, hsz, hst])
                have hcat : (xs ++ ys).toArray = xs.toArray ++ ys.toArray := by simp
                rw [hcat] at hf hr
                exact ⟨_, _, _, hrun, hf, by simpa using hr⟩
            · cases h
          · cases h
        · cases h
      · cases h
    · cases h
  · cases h
end Go.Proofs.YtlfpjdcogkcjlaaGreatDoor.AL
/-
  Every operation but calls of functions: what it gives over an abstract state, and that the machine's does that.
-/
namespace Go.Proofs.YtlfpjdcogkcjlaaGreatDoor.AL
open Go.RowKit
set_option linter.unusedVariables false
set_option linter.unusedSimpArgs false
variable {P : Program} {C : Base}

/-- '==' with nil -/
def nilCmp (P : Program) (t : TypeId) (x y : AV) : Option Bool :=
  match P.underlying t, x, y with
  | some (.interface _), .ifc .., .val .nilIface => some false
  | some (.interface _), .val .nilIface, .ifc .. => some false
  | some (.slice _), .sl .., .val (.slice none 0 0) => some false
  | some (.pointer _), .ptr .., .val (.pointer none) => some false
  | some (.func ..), .fn .., .val .nilFunc => some false
  | _, _, _ => none
theorem nilCmp_run {t : TypeId} {x y : AV} {b : Bool} (h : nilCmp P t x y = some b) {m : Places} {w : World} {u v : Value} (hx : rel m w x u) (hy : rel m w y v) :
    (Op.equal t u v).run P w = .ok b w ∧ (∀ op xo yo, (eqGuard op t xo yo u v).run P w = .ok () w) ∧ (binOp .eql t u v = do pure (.bool (← Op.equal t u v))) ∧ (binOp .neq t u v = do pure (.bool (!(← Op.equal t u v)))) := by
  have key : ∀ {u v : Value}, (∀ d, (Op.equalIn (d + 1) t u v).run P w = .ok false w) → (Op.equal t u v).run P w = .ok false w := fun h => h 9999
  unfold nilCmp at h
  split at h
  · rename_i ms t' c hu
    obtain ⟨z, rfl, _⟩ := hx
    obtain rfl : v = .nilIface := hy
    obtain rfl := Option.some.inj h
    exact ⟨key fun d => by rw [Op.equalIn, Sem.run_bind, run_underlying hu]; rfl, fun op xo yo => by unfold eqGuard; cases op <;> rfl, rfl, rfl⟩
  · rename_i ms t' c hu
    obtain ⟨z, rfl, _⟩ := hy
    obtain rfl : u = .nilIface := hx
    obtain rfl := Option.some.inj h
    exact ⟨key fun d => by rw [Op.equalIn, Sem.run_bind, run_underlying hu]; rfl, fun op xo yo => by unfold eqGuard; cases op <;> rfl, rfl, rfl⟩
  · rename_i e own o off len st hu
    obtain ⟨bb, a, cap, _, rfl, _⟩ := hx
    obtain rfl : v = .slice none 0 0 := hy
    obtain rfl := Option.some.inj h
    exact ⟨key fun d => by rw [Op.equalIn, Sem.run_bind, run_underlying hu]; rfl, fun op xo yo => by unfold eqGuard; cases op <;> rfl, rfl, rfl⟩
  · rename_i e o off hu
    obtain ⟨bb, _, rfl⟩ := hx
    obtain rfl : v = .pointer none := hy
    obtain rfl := Option.some.inj h
    exact ⟨key fun d => by rw [Op.equalIn, Sem.run_bind, run_underlying hu]; rfl, fun op xo yo => by unfold eqGuard; cases op <;> rfl, rfl, rfl⟩
  · rename_i _ _ _ f fi ca hu
    obtain ⟨vs, us, rfl, _⟩ := hx
    obtain rfl : v = .nilFunc := hy
    obtain rfl := Option.some.inj h
    exact ⟨key fun d => by rw [Op.equalIn, Sem.run_bind, run_underlying hu]; rfl, fun op xo yo => by unfold eqGuard; cases op <;> rfl, rfl, rfl⟩
  · cases h

def binA (P : Program) (op : BinOp) (t : TypeId) (xo yo : Operand) (x y : AV) : Option AV :=
  match plain x, plain y with
  | some a, some b => (pureRun P (do eqGuard op t xo yo a b; binOp op t a b)).map .val
  | _, _ => match op, nilCmp P t x y with
    | .eql, some b => some (.val (.bool b))
    | .neq, some b => some (.val (.bool !b))
    | _, _ => none
theorem binA_run {op : BinOp} {t : TypeId} {xo yo : Operand} {x y c : AV} (h : binA P op t xo yo x y = some c) {m : Places} {w : World} {u v : Value} (hx : rel m w x u) (hy : rel m w y v) :
    ∃ r, (do eqGuard op t xo yo u v; binOp op t u v : Sem Value).run P w = .ok r w ∧ rel m w c r := by
  unfold binA at h
  split at h
  · rename_i a b ha hb
    obtain rfl := plain_rel ha hx
    obtain rfl := plain_rel hb hy
    obtain ⟨r, h1, rfl⟩ := Option.map_eq_some_iff.1 h
    exact ⟨r, pureRun_run h1 w, rfl⟩
  · split at h
    · rename_i b hn
      obtain rfl := Option.some.inj h
      obtain ⟨h1, h2, h3, _⟩ := nilCmp_run hn hx hy
      exact ⟨.bool b, by rw [Sem.run_bind, h2, Result.andThen_ok, h3, Sem.run_bind, h1]; rfl, rfl⟩
    · rename_i b hn
      obtain rfl := Option.some.inj h
      obtain ⟨h1, h2, _, h3⟩ := nilCmp_run hn hx hy
      exact ⟨.bool (!b), by rw [Sem.run_bind, h2, Result.andThen_ok, h3, Sem.run_bind, h1]; rfl, rfl⟩
    · cases h

def lenA (P : Program) (t : TypeId) (x : AV) : Option AV :=
  match P.underlying t, x with
  | some .string, .val (.string s) => some (.val (.int .i64 s.size))
  | some (.slice _), .val (.slice none 0 0) => some (.val (.int .i64 0))
  | some (.slice _), .sl _ _ _ n _ => some (.val (.int .i64 n))
  | some (.array n _), _ => some (.val (.int .i64 n))
  | _, _ => none
theorem lenA_run {t ty : TypeId} {x c : AV} (h : lenA P t x = some c) {m : Places} {w : World} {u : Value} (hx : rel m w x u) : ∃ r, (Builtin.len_ #[t] ty #[u]).run P w = .ok r w ∧ rel m w c r := by
  unfold lenA at h
  split at h
  · rename_i s hu
    obtain rfl : u = .string s := hx
    obtain rfl := Option.some.inj h
    exact ⟨_, by simp [Builtin.len_, run_underlying hu, goInt], rfl⟩
  · rename_i e hu
    obtain rfl : u = .slice none 0 0 := hx
    obtain rfl := Option.some.inj h
    exact ⟨_, by simp [Builtin.len_, run_underlying hu, goInt], rfl⟩
  · rename_i e own o off n st hu
    obtain ⟨b, a, cap, _, rfl, _⟩ := hx
    obtain rfl := Option.some.inj h
    exact ⟨_, by simp [Builtin.len_, run_underlying hu, goInt], rfl⟩
  · rename_i n e hu
    obtain rfl := Option.some.inj h
    exact ⟨_, by simp [Builtin.len_, run_underlying hu, goInt], rfl⟩
  · cases h

def indexA (P : Program) (t : TypeId) (x i : AV) : Option AV :=
  match x, i with
  | .val (.string s), .val (.int k n) => match P.underlying t with
    | some .string => if 0 ≤ n ∧ n < s.size then some (.val (.int .u8 ((s.data.toList.getD n.toNat 0).toNat : Int))) else none
    | _ => none
  | .agg l, .val (.int k n) => match P.underlying t with
    | some (.array len e) => match kd P e with
      | some .one => if 0 ≤ n ∧ n < len then l[n.toNat]? else none
      | _ => none
    | _ => none
  | _, _ => none
theorem indexA_run {t : TypeId} {x i c : AV} (h : indexA P t x i = some c) {m : Places} {w : World} {u v : Value} (hx : rel m w x u) (hi : rel m w i v) : ∃ r, (Instr.index t u v).run P w = .ok r w ∧ rel m w c r := by
  unfold indexA at h
  split at h
  · rename_i s k n
    obtain rfl : u = .string s := hx
    obtain rfl : v = .int k n := hi
    split at h
    · rename_i hu
      split at h
      · rename_i hc
        obtain rfl := Option.some.inj h
        obtain ⟨j, rfl⟩ := Int.eq_ofNat_of_zero_le hc.1
        have hj : j < s.size := by omega
        refine ⟨_, ?_, rfl⟩
        have hb : s[(j : Int).toNat]? = some s[j] := by simp [hj]
        have hd : s.data.toList.getD (j : Int).toNat 0 = s[j] := by
          have : j < s.data.toList.length := hj
          simp only [Int.toNat_natCast, List.getD_eq_getElem?_getD, List.getElem?_eq_getElem this, Option.getD_some]
          rfl
        unfold Instr.index
        simp only [Sem.run_bind, run_asIntOf, run_underlying hu, Result.andThen_ok]
        rw [if_pos (by omega), hb, hd]
        rfl
      · cases h
    · cases h
  · rename_i l k n
    obtain ⟨vs, rfl, hl⟩ := hx
    obtain rfl : v = .int k n := hi
    split at h
    · rename_i len e hu
      split at h
      · rename_i hk
        split at h
        · rename_i hc
          obtain ⟨r, h1, h2⟩ := rels_get hl _ _ h
          obtain ⟨d, inf, hu2, hi2, hs1, hs, ha⟩ := kd_one hk
          refine ⟨r, ?_, h2⟩
          unfold Instr.index
          simp only [Sem.run_bind, run_asIntOf, run_underlying hu, Result.andThen_ok]
          rw [if_pos (by simpa using hc)]
          rw [Array.getElem?_toList] at h1
          simp [run_sizeOf hi2, hs1, part, run_isAgg_one hu2 hs ha, h1]
        · cases h
      · cases h
    · cases h
  · cases h

def extractA (x : AV) (i : Nat) : Option AV :=
  match x with
  | .tup l => l[i]?
  | .val (.tuple vs) => vs[i]?.map .val
  | _ => none
theorem extractA_run {x c : AV} {i : Nat} (h : extractA x i = some c) {m : Places} {w : World} {u : Value} (hx : rel m w x u) : ∃ r, (Instr.extract u i).run P w = .ok r w ∧ rel m w c r := by
  unfold extractA at h
  split at h
  · obtain ⟨vs, rfl, hl⟩ := hx
    obtain ⟨r, h1, h2⟩ := rels_get hl _ _ h
    rw [Array.getElem?_toList] at h1
    exact ⟨r, by simp [Instr.extract, h1], h2⟩
  · rename_i vs
    obtain rfl : u = .tuple vs := hx
    obtain ⟨r, h1, rfl⟩ := Option.map_eq_some_iff.1 h
    exact ⟨r, by simp [Instr.extract, h1], rfl⟩
  · cases h

end Go.Proofs.YtlfpjdcogkcjlaaGreatDoor.AL
/-
  Maps with string keys; and every operation but calls of functions in one table.
-/
namespace Go.Proofs.YtlfpjdcogkcjlaaGreatDoor.AL
open Go.RowKit
set_option linter.unusedVariables false
set_option linter.unusedSimpArgs false
variable {P : Program} {C : Base}

theorem RepH.mine_lt {m : Places} {w : World} {H : Heap} (h : RepH C m w H) {o : Nat} {x : AObj} {b : Nat × Nat} (hx : H[o]? = some x) (hb : m[o]? = some b) (hg : x ≠ .gone) : b.1 < w.heap.size := by
  have hr := h.obj _ _ _ hx hb
  cases x with
  | own e cs => obtain ⟨_, arr, h1, _⟩ := hr; exact (Array.getElem?_eq_some_iff.1 h1).1
  | map es => obtain ⟨_, _, _, h1, _⟩ := hr; exact (Array.getElem?_eq_some_iff.1 h1).1
  | ro cs => have := hr.1; have := h.size; omega
  | gone => exact absurd rfl hg

/-- A new object, whatever it is. -/
theorem RepH.add {m : Places} {w : World} {H : Heap} (h : RepH C m w H) (ob : Obj) (x : AObj) (hx : relO C (m ++ [(w.heap.size, 0)]) (w.alloc ob) (w.heap.size, 0) x) :
    Fwd C m w (m ++ [(w.heap.size, 0)]) (w.alloc ob) (H ++ [x]) := by
  have hpre : m <+: m ++ [(w.heap.size, 0)] := List.prefix_append _ _
  have hs := szs_alloc w ob
  have split : ∀ (q : Nat) y b, (H ++ [x])[q]? = some y → (m ++ [(w.heap.size, 0)])[q]? = some b → (H[q]? = some y ∧ m[q]? = some b) ∨ (q = H.length ∧ y = x ∧ b = (w.heap.size, 0)) := by
    intro q y b hy hb
    by_cases hq : q < H.length
    · rw [List.getElem?_append_left hq] at hy
      rw [List.getElem?_append_left (by rw [h.len]; exact hq)] at hb
      exact .inl ⟨hy, hb⟩
    · have : q = H.length := by have := (List.getElem?_eq_some_iff.1 hy).1; simp at this; omega
      subst this
      rw [List.getElem?_append_right (by omega)] at hy
      rw [List.getElem?_append_right (by rw [h.len]; omega), h.len] at hb
      simp at hy hb
      exact .inr ⟨rfl, hy.symm, hb.symm⟩
  refine ⟨hpre, hs, ⟨h.below.alloc h.size _, by have := h.size; simp; omega, by simp [h.len], fun g hg => get_pre hpre (h.glob g hg), fun q y b hy hb => ?_, fun q q' y y' b b' hne hy hy' hb hb' hm hm' => ?_⟩⟩
  · rcases split q y b hy hb with ⟨h1, h2⟩ | ⟨_, rfl, rfl⟩
    · by_cases hg : y = .gone
      · subst hg; trivial
      · exact relO_pre (relO_far (h.obj q y b h1 h2) hs (Below.heap_alloc w _ b.1 (h.mine_lt h1 h2 hg))) hpre
    · exact hx
  · have hng : ∀ {y : AObj}, y.mine = true → y ≠ .gone := fun h e => by subst e; simp [AObj.mine] at h
    rcases split q y b hy hb with ⟨h1, h2⟩ | ⟨k1, rfl, rfl⟩ <;> rcases split q' y' b' hy' hb' with ⟨h3, h4⟩ | ⟨k2, rfl, rfl⟩
    · exact h.apart q q' y y' b b' hne h1 h3 h2 h4 hm hm'
    · have := h.mine_lt h1 h2 (hng hm); simp; omega
    · have := h.mine_lt h3 h4 (hng hm'); simp; omega
    · omega

/-- An object whose block alone turned, and that is of the call's own. -/
theorem RepH.turnTo {m : Places} {w w' : World} {H : Heap} (h : RepH C m w H) {o : Nat} {b : Nat × Nat} {x x' : AObj} (ho : H[o]? = some x) (hb : m[o]? = some b) (hxm : x.mine = true) (hxm' : x'.mine = true) (hB : C.B ≤ b.1)
    (hos : w'.os = w.os) (htape : w'.tape = w.tape) (hout : w'.output = w.output) (hsize : w'.heap.size = w.heap.size) (hfar : ∀ k, k ≠ b.1 → w'.heap[k]? = w.heap[k]?) (hs : Szs w w') (hnew : relO C m w' b x') :
    RepH C m w' (H.set o x') := by
  have hlt : o < H.length := (List.getElem?_eq_some_iff.1 ho).1
  have old : ∀ (q : Nat) y, (H.set o x')[q]? = some y → (q = o ∧ y = x') ∨ (q ≠ o ∧ H[q]? = some y) := by
    intro q y hy
    by_cases hq : q = o
    · subst hq
      rw [List.getElem?_set_self hlt] at hy
      exact .inl ⟨rfl, (Option.some.inj hy).symm⟩
    · rw [List.getElem?_set_ne (by omega)] at hy; exact .inr ⟨hq, hy⟩
  refine ⟨⟨hos.trans h.below.os, htape.trans h.below.tape, hout.trans h.below.output, by rw [hsize]; exact h.below.size, fun k hk => (hfar k (by omega)).trans (h.below.block k hk)⟩, by rw [hsize]; exact h.size, by simpa using h.len, h.glob, fun q y b' hy hb' => ?_, fun q q' y y' b1 b2 hne hy hy' h1 h2 hm hm' => ?_⟩
  · rcases old q y hy with ⟨rfl, rfl⟩ | ⟨hq, h1⟩
    · rw [hb] at hb'; obtain rfl := Option.some.inj hb'; exact hnew
    · have hr := h.obj _ _ _ h1 hb'
      by_cases hg : y = .gone
      · subst hg; trivial
      · refine relO_far hr hs (hfar _ ?_)
        cases hm : y.mine with
        | true => exact h.apart q o y x b' b hq h1 ho hb' hb hm hxm
        | false => have := relO_block hr hm hg; omega
  · rcases old q y hy with ⟨rfl, rfl⟩ | ⟨n1, k1⟩ <;> rcases old q' y' hy' with ⟨rfl, rfl⟩ | ⟨n2, k2⟩
    · omega
    · exact h.apart q q' x y' b1 b2 hne ho k2 h1 h2 hxm hm'
    · exact h.apart q q' y x b1 b2 hne k1 ho h1 h2 hm hxm
    · exact h.apart q q' y y' b1 b2 hne k1 k2 h1 h2 hm hm'

/-! ### maps -/
def isStrMap (P : Program) (t : TypeId) : Option TypeId :=
  match P.underlying t with
  | some (.map k e) => match P.underlying k with
    | some .string => some e
    | _ => none
  | _ => none
theorem isStrMap_spec {t e : TypeId} (h : isStrMap P t = some e) : ∃ k, P.underlying t = some (.map k e) ∧ P.underlying k = some .string := by
  unfold isStrMap at h
  split at h
  · rename_i k e' hu
    split at h
    · rename_i hk
      obtain rfl := Option.some.inj h
      exact ⟨k, hu, hk⟩
    · cases h
  · cases h

theorem beq_bytes (s k : ByteArray) : (s == k) = decide (s = k) := by
  cases s with
  | mk a => cases k with
    | mk b => show (a == b) = _; rw [Bool.eq_iff_iff]; simp [ByteArray.mk.injEq]
def findA (s : ByteArray) : List (ByteArray × AV) → Option AV
  | [] => none
  | (k, c) :: r => if s = k then some c else findA s r
theorem findNow_str (s : ByteArray) {m : Places} {w : World} : ∀ (es : List (ByteArray × AV)) (ens : List MapEntry) (i : Nat), ens.length = es.length → (∀ (j : Nat) k c, es[j]? = some (k, c) → ∃ en, ens[j]? = some en ∧ en.key = .string k ∧ rel m w c en.val) →
    (findA s es = none ∧ Instr.findNow .string (.string s) ens i = some none ∧ ∀ p ∈ es, p.1 ≠ s) ∨
    ∃ j c v, findA s es = some c ∧ Instr.findNow .string (.string s) ens i = some (some (i + j, v)) ∧ rel m w c v ∧ es[j]? = some (s, c) ∧ ∀ q, q < j → ∀ p, es[q]? = some p → p.1 ≠ s
  | [], ens, i, hl, _ => by
    obtain rfl := List.eq_nil_of_length_eq_zero hl
    exact .inl ⟨rfl, rfl, by simp⟩
  | (k, c) :: es, [], i, hl, _ => by simp at hl
  | (k, c) :: es, en :: ens, i, hl, h => by
    obtain ⟨en', h1, h2, h3⟩ := h 0 k c rfl
    simp at h1; subst h1
    by_cases hk : s = k
    · subst hk
      exact .inr ⟨0, c, en.val, by simp [findA], by simp [Instr.findNow, h2, Instr.sameNow, beq_bytes], h3, rfl, by simp⟩
    · have hne : Instr.sameNow .string (.string s) en.key = some false := by simp [h2, Instr.sameNow, beq_bytes, hk]
      rcases findNow_str s es ens (i + 1) (by simpa using hl) (fun j k c hj => by
        obtain ⟨e2, q1, q2, q3⟩ := h (j + 1) k c (by simpa using hj)
        exact ⟨e2, by simpa using q1, q2, q3⟩) with ⟨h4, h5, h6⟩ | ⟨j, c', v, h4, h5, h6, h7, h8⟩
      · refine .inl ⟨by simp [findA, hk, h4], by simp [Instr.findNow, hne, h5], ?_⟩
        intro p hp
        rcases List.mem_cons.1 hp with rfl | hp
        · exact fun e => hk e.symm
        · exact h6 p hp
      · refine .inr ⟨j + 1, c', v, by simp [findA, hk, h4], by rw [Instr.findNow]; simp only [hne]; rw [h5]; congr 3; omega, h6, by simpa using h7, ?_⟩
        intro q hq p hp
        cases q with
        | zero => simp at hp; subst hp; exact fun e => hk e.symm
        | succ q => exact h8 q (by omega) p (by simpa using hp)

theorem run_checkKey_str {k : TypeId} {s : ByteArray} {b : Bool} {w : World} (hk : P.underlying k = some .string) : (Instr.checkKey b 10000 k (.string s)).run P w = .ok () w := by
  show (Instr.checkKey b (9999 + 1) k (.string s)).run P w = .ok () w
  rw [Instr.checkKey, Sem.run_bind, run_underlying hk]; rfl

/-- a type's zero value -/
def zv (P : Program) (t : TypeId) : Option Value := (P.info? t).bind (·.zero)
theorem run_zv {t : TypeId} {z : Value} {w : World} (h : zv P t = some z) : (zeroValue t).run P w = .ok z w := by
  unfold zv at h
  obtain ⟨i, hi, hz⟩ := Option.bind_eq_some_iff.1 h
  simp [zeroValue, typeInfo, hi, hz]

def lookupA (P : Program) (t : TypeId) (x k : AV) (ok : Bool) (H : Heap) : Option AV :=
  match isStrMap P t, x, k with
  | some e, .mp o, .val (.string s) => match H[o]?, zv P e with
    | some (.map es), some z => match findA s es with
      | some c => some (if ok then .tup [c, .val (.bool true)] else c)
      | none => some (if ok then .tup [.val z, .val (.bool false)] else .val z)
    | _, _ => none
  | _, _, _ => none
theorem lookupA_run {t : TypeId} {x k c : AV} {ok : Bool} {H : Heap} (h : lookupA P t x k ok H = some c) {m : Places} {w : World} (hH : RepH C m w H) {u v : Value} (hx : rel m w x u) (hk : rel m w k v) :
    ∃ r, (Instr.lookup t u v ok).run P w = .ok r w ∧ rel m w c r := by
  unfold lookupA at h
  split at h
  · rename_i e o s hm
    obtain ⟨K, hu, hks⟩ := isStrMap_spec hm
    obtain ⟨b, hb, rfl⟩ := hx
    obtain rfl : v = .string s := hk
    split at h
    · rename_i es z ho hz
      obtain ⟨hB, ens, clock, hh, hsz, hen⟩ := hH.obj _ _ _ ho hb
      have hget : (getObj b.1).run P w = .ok (.map ens clock) w := by simp [getObj, Sem.run, hh]
      have hchk : (Instr.checkKey ens.isEmpty 10000 K (.string s)).run P w = .ok () w := run_checkKey_str hks
      have hgoal : ∀ (r : Option (Nat × Value)) (vv : Value) (bb : Bool), Instr.findNow .string (.string s) ens.toList 0 = some r → ((r = none ∧ vv = z ∧ bb = false) ∨ ∃ i, r = some (i, vv) ∧ bb = true) →
          (Instr.lookup t (.map (some b.1)) (.string s) ok).run P w = .ok (if ok then .tuple #[vv, .bool bb] else vv) w := by
        intro r vv bb hr hc
        unfold Instr.lookup
        simp only [Sem.run_bind, run_underlying hu, Result.andThen_ok, hget, Sem.run_pure, hchk, Instr.findKey, run_underlying hks, hr]
        rcases hc with ⟨rfl, rfl, rfl⟩ | ⟨i, rfl, rfl⟩
        · simp [run_zv hz]
        · simp
      rcases findNow_str (m := m) (w := w) s es ens.toList 0 (by simpa using hsz) (fun j k c hj => by
        obtain ⟨en, q1, q2, q3⟩ := hen j k c hj
        exact ⟨en, by simpa using q1, q2, q3⟩) with ⟨h4, h5, _⟩ | ⟨j, c', v, h4, h5, h6, _⟩
      · rw [h4] at h
        obtain rfl := Option.some.inj h
        refine ⟨_, hgoal none z false h5 (.inl ⟨rfl, rfl, rfl⟩), ?_⟩
        cases ok
        · exact rfl
        · exact ⟨_, rfl, rfl, rfl, trivial⟩
      · rw [h4] at h
        obtain rfl := Option.some.inj h
        refine ⟨_, hgoal _ v true h5 (.inr ⟨_, rfl, rfl⟩), ?_⟩
        cases ok
        · exact h6
        · exact ⟨_, rfl, h6, rfl, trivial⟩
    · cases h
  · cases h

def insertA (P : Program) (t : TypeId) (x k v : AV) (H : Heap) : Option Heap :=
  match isStrMap P t, x, k with
  | some e, .mp o, .val (.string s) => match H[o]? with
    | some (.map es) => match findA s es with
      | none => some (H.set o (.map (es ++ [(s, v)])))
      | some _ => none
    | _ => none
  | _, _, _ => none
theorem insertA_run {t : TypeId} {x k y : AV} {H H' : Heap} (h : insertA P t x k y H = some H') {m : Places} {w : World} (hH : RepH C m w H) {u v z : Value} (hx : rel m w x u) (hk : rel m w k v) (hy : rel m w y z) :
    ∃ w', (Instr.mapUpdate t u v z).run P w = .ok () w' ∧ Fwd C m w m w' H' := by
  unfold insertA at h
  split at h
  · rename_i e o s hm
    obtain ⟨K, hu, hks⟩ := isStrMap_spec hm
    obtain ⟨b, hb, rfl⟩ := hx
    obtain rfl : v = .string s := hk
    split at h
    · rename_i es ho
      split at h
      · rename_i hfind
        obtain rfl := Option.some.inj h
        obtain ⟨hB, ens, clock, hh, hsz, hen⟩ := hH.obj _ _ _ ho hb
        have hget : (getObj b.1).run P w = .ok (.map ens clock) w := by simp [getObj, Sem.run, hh]
        have hlt : b.1 < w.heap.size := (Array.getElem?_eq_some_iff.1 hh).1
        rcases findNow_str (m := m) (w := w) s es ens.toList 0 (by simpa using hsz) (fun j k c hj => by
          obtain ⟨en, q1, q2, q3⟩ := hen j k c hj
          exact ⟨en, by simpa using q1, q2, q3⟩) with ⟨h4, h5, _⟩ | ⟨j, c', v, h4, _⟩
        · have hfk : (Instr.findKey K (.string s) ens.toList).run P w = .ok none w := by simp [Instr.findKey, run_underlying hks, h5]
          refine ⟨{ w with heap := w.heap.setIfInBounds b.1 (.map (ens.push { key := .string s, val := z, born := clock }) (clock + 1)) }, ?_, List.prefix_refl m, ?_, ?_⟩
          · unfold Instr.mapUpdate
            simp only [Sem.run_bind, run_underlying hu, Result.andThen_ok, hget, run_checkKey_str hks, hfk]
            simp [setObj, Sem.run, hh]
          · intro k a e' fr hka
            refine ⟨a, ?_, rfl⟩
            by_cases hkb : k = b.1
            · subst hkb; rw [hh] at hka; cases hka
            · simp only [Array.getElem?_setIfInBounds_ne (Ne.symm hkb)]; exact hka
          · have hs : Szs w { w with heap := w.heap.setIfInBounds b.1 (.map (ens.push { key := .string s, val := z, born := clock }) (clock + 1)) } := by
              intro k a e' fr hka
              refine ⟨a, ?_, rfl⟩
              by_cases hkb : k = b.1
              · subst hkb; rw [hh] at hka; cases hka
              · simp only [Array.getElem?_setIfInBounds_ne (Ne.symm hkb)]; exact hka
            refine hH.turnTo ho hb rfl rfl hB rfl rfl rfl (by simp) (fun k hk => by simp only [Array.getElem?_setIfInBounds_ne (Ne.symm hk)]) hs ⟨hB, ens.push { key := .string s, val := z, born := clock }, clock + 1, ?_, ?_, ?_⟩
            · simp [hlt]
            · simp [hsz]
            · intro j k c hj
              by_cases hjl : j < es.length
              · rw [List.getElem?_append_left hjl] at hj
                obtain ⟨en, q1, q2, q3⟩ := hen j k c hj
                exact ⟨en, by rw [Array.getElem?_push_lt (by omega)]; rw [← q1, Array.getElem?_eq_getElem (by omega)], q2, rel_more (List.prefix_refl m) hs q3⟩
              · have : j = es.length := by have := (List.getElem?_eq_some_iff.1 hj).1; simp at this; omega
                subst this
                rw [List.getElem?_append_right (by omega)] at hj
                simp at hj
                obtain ⟨rfl, rfl⟩ := hj
                exact ⟨_, by rw [← hsz]; exact Array.getElem?_push_size, rfl, rel_more (List.prefix_refl m) hs hy⟩
        · rw [hfind] at h4; cases h4
      · cases h
    · cases h
  · cases h
end Go.Proofs.YtlfpjdcogkcjlaaGreatDoor.AL
/-
  One table of operations over abstract states; the machine's operation does what the table says.
-/
namespace Go.Proofs.YtlfpjdcogkcjlaaGreatDoor.AL
open Go.RowKit
set_option linter.unusedVariables false
set_option linter.unusedSimpArgs false
variable {P : Program} {C : Base}

def builtinA (P : Program) (b : Builtin) (ty : TypeId) (args : List AV) (ts : Array TypeId) (H : Heap) : Ans :=
  match b, args, ts.toList with
  | .len, [x], [t] => (lenA P t x).map fun c => (c, H)
  | .append, [x, y], [t, t'] => if t = t' then appendA P t x y H else none
  | .max, xs, _ => (plains xs).bind fun vs => (pureRun P (Builtin.max_ ts ty vs.toArray)).map fun v => (.val v, H)
  | .min, xs, _ => (plains xs).bind fun vs => (pureRun P (Builtin.min_ ts ty vs.toArray)).map fun v => (.val v, H)
  | _, _, _ => none

def isIface (P : Program) (t : TypeId) : Option Bool :=
  match P.underlying t with
  | some (.interface _) => some true
  | some _ => some false
  | none => none

def astep (P : Program) (o : Oper) (env : Env) (H : Heap) : Ans :=
  match o.op with
  | .move x => some (opA env x, H)
  | .assign x => some (opA env x, H)
  | .pick c a b => match opA env c with
    | .val (.bool t) => some (if t then opA env a else opA env b, H)
    | _ => none
  | .alloc e => match zc P e with
    | some zs => if zs.all Value.oneCell' then some (.ptr H.length 0, H ++ [.own e (zs.map .val)]) else none
    | none => none
  | .box e x => (avCells (opA env x)).map fun l => (.ptr H.length 0, H ++ [.own e l])
  | .build t ps => (partsA env ps.toList).bind fun r => buildA P t r H
  | .buildSlice t n ps => (partsA env ps.toList).bind fun r => buildSliceA P t n r H
  | .load t x => loadA P t (opA env x) H
  | .store t x y => (storeA P t (opA env x) (opA env y) H).map fun H' => (.any, H')
  | .nilCheck x => match opA env x with
    | .ptr a b => some (.ptr a b, H)
    | .fn (.func f) a c => some (.fn (.func f) a c, H)
    | _ => none
  | .binOp op t x y _ => (binA P op t x y (opA env x) (opA env y)).map fun c => (c, H)
  | .unOp op _ x => (plain (opA env x)).bind fun v => (pureRun P (Op.unary op v)).map fun r => (.val r, H)
  | .convert s d x => (plain (opA env x)).bind fun v => (pureRun P (convert s d v)).map fun r => (.val r, H)
  | .slice t x lo hi none => sliceA P t (opA env x) (lo.map (opA env)) (hi.map (opA env)) H
  | .fieldAddr s x f => fieldAddrA P s (opA env x) f H
  | .indexAddr t x i => indexAddrA P t (opA env x) (opA env i) H
  | .index t x i => (indexA P t (opA env x) (opA env i)).map fun c => (c, H)
  | .lookup t x k ok => (lookupA P t (opA env x) (opA env k) ok H).map fun c => (c, H)
  | .insert t m k v => (insertA P t (opA env m) (opA env k) (opA env v) H).map fun H' => (.any, H')
  | .mapUpdate t m k v => (insertA P t (opA env m) (opA env k) (opA env v) H).map fun H' => (.any, H')
  | .makeMap t none => some (.mp H.length, H ++ [.map []])
  | .makeSlice t l c => makeSliceA P t (opA env l) (opA env c) H
  | .extract x i => (extractA (opA env x) i).map fun c => (c, H)
  | .makeInterface t x => match isIface P t with
    | some false => some (.ifc t (opA env x), H)
    | _ => none
  | .makeFunc f a c => some (.fn f (a.toList.map (opA env)) (c.toList.map (opA env)), H)
  | .call c => match c.callee with
    | .builtin b => builtinA P b o.type (c.args.toList.map (opA env)) c.argTypes H
    | _ => none
  | _ => none

/-- The machine's operation gives this. -/
def StepOk (P : Program) (C : Base) (o : Oper) (a : Act) (m : Places) (w : World) (r : AV) (H' : Heap) : Prop :=
  ∃ nxt m' w', (execOp a.eval o).run P w = .ok nxt w' ∧ ((∃ u, nxt = .value u ∧ rel m' w' r u) ∨ (nxt = .skip ∧ r = .any)) ∧ Fwd C m w m' w' H'

theorem rels_map_opA {m : Places} {w : World} {env : Env} {a : Act} (h : RepE m w env a) {H : Heap} (hH : RepH C m w H) : ∀ {xs : List Operand}, (∀ x ∈ xs, okX C.nG x = true) → rels m w (xs.map (opA env)) (xs.map a.eval)
  | [], _ => trivial
  | x :: xs, hx => ⟨opA_rel h hH (okX_spec (hx x (List.mem_cons_self ..))), rels_map_opA h hH fun y hy => hx y (List.mem_cons_of_mem _ hy)⟩

theorem builtinA_run {b : Builtin} {ty : TypeId} {args : List AV} {ts : Array TypeId} {H H' : Heap} {r : AV} (h : builtinA P b ty args ts H = some (r, H')) {m : Places} {w : World} (hH : RepH C m w H) {vs : List Value} (hr : rels m w args vs) (consts : Array Bool) :
    ∃ u m' w', (Go.builtin b ts ty consts vs.toArray).run P w = .ok (.value u) w' ∧ Fwd C m w m' w' H' ∧ rel m' w' r u := by
  have self : Fwd C m w m w H := ⟨List.prefix_refl m, Szs.refl w, hH⟩
  unfold builtinA at h
  split at h
  · rename_i x t hts
    obtain ⟨c, h1, h2⟩ := Option.map_eq_some_iff.1 h
    simp only [Prod.mk.injEq] at h2
    obtain ⟨rfl, rfl⟩ := h2
    match vs, hr with
    | [u], hr =>
      obtain ⟨y, h3, h4⟩ := lenA_run (ty := ty) h1 hr.1
      have hts' : ts = #[t] := by rw [← Array.toArray_toList (xs := ts), hts]
      subst hts'
      exact ⟨y, m, w, by simp [Go.builtin, h3], self, h4⟩
  · rename_i x y t t' hts
    split at h
    · rename_i he
      subst he
      match vs, hr with
      | [u, v], hr =>
        obtain ⟨z, m', w', h3, h4, h5⟩ := appendA_run (ty := ty) h hH hr.1 hr.2.1
        have hts' : ts = #[t, t] := by rw [← Array.toArray_toList (xs := ts), hts]
        subst hts'
        exact ⟨z, m', w', by simp [Go.builtin, h3], h4, h5⟩
    · cases h
  · obtain ⟨us, h1, h2⟩ := Option.bind_eq_some_iff.1 h
    obtain ⟨v, h3, h4⟩ := Option.map_eq_some_iff.1 h2
    simp only [Prod.mk.injEq] at h4
    obtain ⟨rfl, rfl⟩ := h4
    obtain rfl := plains_rel h1 hr
    exact ⟨v, m, w, by simp [Go.builtin, pureRun_run h3 w], self, rfl⟩
  · obtain ⟨us, h1, h2⟩ := Option.bind_eq_some_iff.1 h
    obtain ⟨v, h3, h4⟩ := Option.map_eq_some_iff.1 h2
    simp only [Prod.mk.injEq] at h4
    obtain ⟨rfl, rfl⟩ := h4
    obtain rfl := plains_rel h1 hr
    exact ⟨v, m, w, by simp [Go.builtin, pureRun_run h3 w], self, rfl⟩
  · cases h

theorem isIface_false {t : TypeId} (h : isIface P t = some false) : ∃ d, P.underlying t = some d ∧ ∀ ms, d ≠ .interface ms := by
  unfold isIface at h
  split at h
  · simp at h
  · rename_i d hd hu; exact ⟨d, hu, fun ms e => hd ms e⟩
  · cases h

set_option maxHeartbeats 4000000 in
theorem astep_run {o : Oper} {env : Env} {H H' : Heap} {r : AV} (h : astep P o env H = some (r, H')) {m : Places} {w : World} {a : Act} (hH : RepH C m w H) (hE : RepE m w env a) (hx : o.op.operands.all (okX C.nG) = true) :
    StepOk P C o a m w r H' := by
  have self : Fwd C m w m w H := ⟨List.prefix_refl m, Szs.refl w, hH⟩
  have hmem : ∀ x ∈ o.op.operands, okX C.nG x = true := fun x hxm => by rw [Array.all_eq_true_iff_forall_mem] at hx; exact hx x hxm
  have ev : ∀ x ∈ o.op.operands, rel m w (opA env x) (a.eval x) := fun x hxm => opA_rel hE hH (okX_spec (hmem x hxm))
  have val : ∀ {u : Value} {s : Sem Value}, (execOp a.eval o = do pure (.value (← s))) → s.run P w = .ok u w → rel m w r u → H' = H → StepOk P C o a m w r H' := by
    intro u s he hs hr hH'
    subst hH'
    exact ⟨.value u, m, w, by rw [he, Sem.run_bind, hs]; rfl, .inl ⟨u, rfl, hr⟩, self⟩
  have valn : ∀ {u : Value} {s : Sem Value} {m' : Places} {w' : World}, (execOp a.eval o = do pure (.value (← s))) → s.run P w = .ok u w' → rel m' w' r u → Fwd C m w m' w' H' → StepOk P C o a m w r H' := by
    intro u s m' w' he hs hr hf
    exact ⟨.value u, m', w', by rw [he, Sem.run_bind, hs]; rfl, .inl ⟨u, rfl, hr⟩, hf⟩
  unfold astep at h
  split at h
  · rename_i x ho
    simp only [Option.some.injEq, Prod.mk.injEq] at h
    obtain ⟨rfl, rfl⟩ := h
    exact ⟨.value (a.eval x), m, w, by simp [execOp, ho], .inl ⟨_, rfl, ev x (by simp [ho, Op.operands])⟩, self⟩
  · rename_i x ho
    simp only [Option.some.injEq, Prod.mk.injEq] at h
    obtain ⟨rfl, rfl⟩ := h
    exact ⟨.value (a.eval x), m, w, by simp [execOp, ho], .inl ⟨_, rfl, ev x (by simp [ho, Op.operands])⟩, self⟩
  · rename_i c x y ho
    split at h
    · rename_i t hc
      simp only [Option.some.injEq, Prod.mk.injEq] at h
      obtain ⟨rfl, rfl⟩ := h
      have h1 := ev c (by simp [ho, Op.operands])
      rw [hc] at h1
      have h1' : a.eval c = .bool t := h1
      refine ⟨.value (if t then a.eval x else a.eval y), m, w, by simp [execOp, ho, h1', asBool], .inl ⟨_, rfl, ?_⟩, self⟩
      cases t
      · exact ev y (by simp [ho, Op.operands])
      · exact ev x (by simp [ho, Op.operands])
    · cases h
  · rename_i e ho
    split at h
    · rename_i zs hz
      split at h
      · rename_i hall
        simp only [Option.some.injEq, Prod.mk.injEq] at h
        obtain ⟨rfl, rfl⟩ := h
        obtain ⟨z, h1, h2⟩ := run_zero (P := P) (w := w) hz
        have hr := rels_val m w zs
        have hf := hH.new e (arr := z.cells) (cs := zs.map .val) (fun j c hj => by
          obtain ⟨v, q1, q2⟩ := rels_get hr j c hj
          exact ⟨v, by rw [← Array.getElem?_toList, h2]; exact q1, q2⟩) (by rw [← Array.length_toList, h2]; simp)
        refine valn (s := Instr.alloc e true (.tuple #[])) (by simp [execOp, ho]) (u := .pointer (some ⟨w.heap.size, 0, none⟩)) ?_ ⟨(w.heap.size, 0), by rw [← hH.len]; simp, rfl⟩ hf
        simp [Instr.alloc, h1, newVar, newRow]
      · cases h
    · cases h
  · rename_i e x ho
    obtain ⟨l, h1, h2⟩ := Option.map_eq_some_iff.1 h
    simp only [Prod.mk.injEq] at h2
    obtain ⟨rfl, rfl⟩ := h2
    have hr := (avCells_rel h1 (ev x (by simp [ho, Op.operands]))).1
    have hf := hH.new e (arr := (a.eval x).cells) (cs := l) (fun j c hj => by
      obtain ⟨v, q1, q2⟩ := rels_get hr j c hj
      exact ⟨v, by rw [← Array.getElem?_toList]; exact q1, q2⟩) (by rw [rels_length hr]; simp)
    refine valn (s := Instr.box e (a.eval x)) (by simp [execOp, ho]) (u := .pointer (some ⟨w.heap.size, 0, none⟩)) ?_ ⟨(w.heap.size, 0), by rw [← hH.len]; simp, rfl⟩ hf
    simp [Instr.box, newVar, newRow]
  · rename_i t ps ho
    obtain ⟨l, h1, h2⟩ := Option.bind_eq_some_iff.1 h
    have hp := partsA_rel hE hH (ps := ps.toList) (fun p hp => hmem p.2 (by simp [ho, Op.operands]; exact ⟨p.1, by simpa using hp⟩)) h1
    obtain ⟨rfl, u, h3, h4⟩ := buildA_run (P := P) h2 (w := w) (ps := ps.map fun p => (p.1, a.eval p.2)) (by simpa using hp)
    exact val (s := Instr.build t (ps.map fun p => (p.1, a.eval p.2))) (by simp [execOp, ho]) h3 h4 rfl
  · rename_i t n ps ho
    obtain ⟨l, h1, h2⟩ := Option.bind_eq_some_iff.1 h
    have hp := partsA_rel hE hH (ps := ps.toList) (fun p hp => hmem p.2 (by simp [ho, Op.operands]; exact ⟨p.1, by simpa using hp⟩)) h1
    obtain ⟨u, m', w', h3, h4, h5⟩ := buildSliceA_run (P := P) h2 hH (ps := ps.map fun p => (p.1, a.eval p.2)) (by simpa using hp)
    exact valn (s := Instr.buildSlice t n (ps.map fun p => (p.1, a.eval p.2))) (by simp [execOp, ho]) h3 h5 h4
  · rename_i t x ho
    obtain ⟨rfl, u, h3, h4⟩ := loadA_run h hH (ev x (by simp [ho, Op.operands]))
    exact val (s := Instr.loadAt t (a.eval x)) (by simp [execOp, ho]) h3 h4 rfl
  · rename_i t x y ho
    obtain ⟨H2, h1, h2⟩ := Option.map_eq_some_iff.1 h
    simp only [Prod.mk.injEq] at h2
    obtain ⟨rfl, rfl⟩ := h2
    obtain ⟨w', h3, h4⟩ := storeA_run h1 hH (ev x (by simp [ho, Op.operands])) (ev y (by simp [ho, Op.operands]))
    exact ⟨.skip, m, w', by simp [execOp, ho, h3], .inr ⟨rfl, rfl⟩, h4⟩
  · rename_i x ho
    have hv := ev x (by simp [ho, Op.operands])
    split at h
    · rename_i p q hp
      simp only [Option.some.injEq, Prod.mk.injEq] at h
      obtain ⟨rfl, rfl⟩ := h
      rw [hp] at hv
      have hv' := hv
      obtain ⟨b, _, hb⟩ := hv'
      exact ⟨.value (a.eval x), m, w, by simp [execOp, ho, hb], .inl ⟨_, rfl, hv⟩, self⟩
    · rename_i f p q hp
      simp only [Option.some.injEq, Prod.mk.injEq] at h
      obtain ⟨rfl, rfl⟩ := h
      rw [hp] at hv
      have hv' := hv
      obtain ⟨vs, us, hb, _⟩ := hv'
      exact ⟨.value (a.eval x), m, w, by simp [execOp, ho, hb], .inl ⟨_, rfl, hv⟩, self⟩
    · cases h
  · rename_i op t x y _ ho
    obtain ⟨c, h1, h2⟩ := Option.map_eq_some_iff.1 h
    simp only [Prod.mk.injEq] at h2
    obtain ⟨rfl, rfl⟩ := h2
    obtain ⟨r, h3, h4⟩ := binA_run h1 (ev x (by simp [ho, Op.operands])) (ev y (by simp [ho, Op.operands]))
    exact val (by simp only [execOp, ho]) h3 h4 rfl
  · rename_i op _ x ho
    obtain ⟨v, h1, h2⟩ := Option.bind_eq_some_iff.1 h
    obtain ⟨r, h3, h4⟩ := Option.map_eq_some_iff.1 h2
    simp only [Prod.mk.injEq] at h4
    obtain ⟨rfl, rfl⟩ := h4
    obtain hv := plain_rel h1 (ev x (by simp [ho, Op.operands]))
    exact val (s := Op.unary op (a.eval x)) (by simp only [execOp, ho]) (by rw [hv]; exact pureRun_run h3 w) rfl rfl
  · rename_i s d x ho
    obtain ⟨v, h1, h2⟩ := Option.bind_eq_some_iff.1 h
    obtain ⟨r, h3, h4⟩ := Option.map_eq_some_iff.1 h2
    simp only [Prod.mk.injEq] at h4
    obtain ⟨rfl, rfl⟩ := h4
    obtain hv := plain_rel h1 (ev x (by simp [ho, Op.operands]))
    exact val (s := convert s d (a.eval x)) (by simp only [execOp, ho]) (by rw [hv]; exact pureRun_run h3 w) rfl rfl
  · rename_i t x lo hi ho
    have hl : relOpt m w (lo.map (opA env)) (lo.map a.eval) := by
      cases lo with
      | none => trivial
      | some y => exact ev y (by simp [ho, Op.operands])
    have hh : relOpt m w (hi.map (opA env)) (hi.map a.eval) := by
      cases hi with
      | none => trivial
      | some y => exact ev y (by simp [ho, Op.operands])
    obtain ⟨rfl, u, h3, h4⟩ := sliceA_run h (ev x (by simp [ho, Op.operands])) hl hh
    exact val (s := Instr.sliceAt t (a.eval x) (lo.map a.eval) (hi.map a.eval) none) (by simp [execOp, ho]) h3 h4 rfl
  · rename_i s x f ho
    obtain ⟨rfl, u, h3, h4⟩ := fieldAddrA_run h (ev x (by simp [ho, Op.operands]))
    exact val (s := Instr.fieldAt s (a.eval x) f) (by simp only [execOp, ho]) h3 h4 rfl
  · rename_i t x i ho
    obtain ⟨rfl, u, h3, h4⟩ := indexAddrA_run h (ev x (by simp [ho, Op.operands])) (ev i (by simp [ho, Op.operands]))
    exact val (s := Instr.indexAt t (a.eval x) (a.eval i)) (by simp only [execOp, ho]) h3 h4 rfl
  · rename_i t x i ho
    obtain ⟨c, h1, h2⟩ := Option.map_eq_some_iff.1 h
    simp only [Prod.mk.injEq] at h2
    obtain ⟨rfl, rfl⟩ := h2
    obtain ⟨u, h3, h4⟩ := indexA_run h1 (ev x (by simp [ho, Op.operands])) (ev i (by simp [ho, Op.operands]))
    exact val (s := Instr.index t (a.eval x) (a.eval i)) (by simp only [execOp, ho]) h3 h4 rfl
  · rename_i t x k ok ho
    obtain ⟨c, h1, h2⟩ := Option.map_eq_some_iff.1 h
    simp only [Prod.mk.injEq] at h2
    obtain ⟨rfl, rfl⟩ := h2
    obtain ⟨u, h3, h4⟩ := lookupA_run h1 hH (ev x (by simp [ho, Op.operands])) (ev k (by simp [ho, Op.operands]))
    exact val (s := Instr.lookup t (a.eval x) (a.eval k) ok) (by simp only [execOp, ho]) h3 h4 rfl
  · rename_i t x k y ho
    obtain ⟨H2, h1, h2⟩ := Option.map_eq_some_iff.1 h
    simp only [Prod.mk.injEq] at h2
    obtain ⟨rfl, rfl⟩ := h2
    obtain ⟨w', h3, h4⟩ := insertA_run h1 hH (ev x (by simp [ho, Op.operands])) (ev k (by simp [ho, Op.operands])) (ev y (by simp [ho, Op.operands]))
    exact ⟨.skip, m, w', by simp [execOp, ho, h3], .inr ⟨rfl, rfl⟩, h4⟩
  · rename_i t x k y ho
    obtain ⟨H2, h1, h2⟩ := Option.map_eq_some_iff.1 h
    simp only [Prod.mk.injEq] at h2
    obtain ⟨rfl, rfl⟩ := h2
    obtain ⟨w', h3, h4⟩ := insertA_run h1 hH (ev x (by simp [ho, Op.operands])) (ev k (by simp [ho, Op.operands])) (ev y (by simp [ho, Op.operands]))
    exact ⟨.skip, m, w', by simp [execOp, ho, h3], .inr ⟨rfl, rfl⟩, h4⟩
  · rename_i t ho
    simp only [Option.some.injEq, Prod.mk.injEq] at h
    obtain ⟨rfl, rfl⟩ := h
    have hf := hH.add (.map #[] 0) (.map []) ⟨hH.size, #[], 0, heap_alloc_new w _, rfl, fun j k c hj => by simp at hj⟩
    refine valn (s := Instr.makeMap t none) (by simp [execOp, ho]) (u := .map (some w.heap.size)) ?_ ⟨(w.heap.size, 0), by rw [← hH.len]; simp, rfl⟩ hf
    simp [Instr.makeMap]
  · rename_i t x y ho
    obtain ⟨u, m', w', h3, h4, h5⟩ := makeSliceA_run h hH (ev x (by simp [ho, Op.operands])) (ev y (by simp [ho, Op.operands]))
    exact valn (s := Instr.makeSlice t (a.eval x) (a.eval y)) (by simp only [execOp, ho]) h3 h5 h4
  · rename_i x i ho
    obtain ⟨c, h1, h2⟩ := Option.map_eq_some_iff.1 h
    simp only [Prod.mk.injEq] at h2
    obtain ⟨rfl, rfl⟩ := h2
    obtain ⟨u, h3, h4⟩ := extractA_run h1 (ev x (by simp [ho, Op.operands]))
    exact val (s := Instr.extract (a.eval x) i) (by simp only [execOp, ho]) (by rw [h3]) h4 rfl
  · rename_i t x ho
    split at h
    · rename_i hi
      simp only [Option.some.injEq, Prod.mk.injEq] at h
      obtain ⟨rfl, rfl⟩ := h
      obtain ⟨d, hu, hd⟩ := isIface_false hi
      refine val (s := Instr.makeInterface t (a.eval x)) (by simp only [execOp, ho]) (u := .iface t (a.eval x)) ?_ ⟨_, rfl, ev x (by simp [ho, Op.operands])⟩ rfl
      unfold Instr.makeInterface
      rw [Sem.run_bind, run_underlying hu, Result.andThen_ok]
      cases d <;> first | exact absurd rfl (hd _) | rfl
    · cases h
  · rename_i f x y ho
    simp only [Option.some.injEq, Prod.mk.injEq] at h
    obtain ⟨rfl, rfl⟩ := h
    refine val (s := Instr.makeFunc f (x.map a.eval) (y.map a.eval)) (by simp only [execOp, ho]) (u := .func f (x.map a.eval) (y.map a.eval)) ?_ ⟨_, _, rfl, ?_, ?_⟩ rfl
    · rfl
    · simpa using rels_map_opA hE hH (xs := x.toList) fun z hz => hmem z (by simp [ho, Op.operands]; exact .inl (by simpa using hz))
    · simpa using rels_map_opA hE hH (xs := y.toList) fun z hz => hmem z (by simp [ho, Op.operands]; exact .inr (by simpa using hz))
  · rename_i c ho
    split at h
    · rename_i b hb
      have hr := rels_map_opA hE hH (xs := c.args.toList) fun z hz => hmem z (by rw [ho]; show z ∈ Call.operands c; unfold Call.operands; rw [hb]; simpa using hz)
      obtain ⟨u, m', w', h3, h4, h5⟩ := builtinA_run h hH hr (c.args.map fun | .const _ => true | _ => false)
      refine ⟨.value u, m', w', ?_, .inl ⟨u, rfl, h5⟩, h4⟩
      have harr : (c.args.toList.map a.eval).toArray = c.args.map a.eval := by rw [← Array.toList_map, Array.toArray_toList]
      rw [harr] at h3
      simp only [execOp, ho, resolve, hb, Sem.run_bind, Sem.run_pure, Result.andThen_ok, invoke]
      exact h3
    · cases h
  · cases h
end Go.Proofs.YtlfpjdcogkcjlaaGreatDoor.AL
/-
  Calls, lists of operations, code: the logic's rules.
-/
namespace Go.Proofs.YtlfpjdcogkcjlaaGreatDoor.AL
open Go.RowKit
set_option linter.unusedVariables false
set_option linter.unusedSimpArgs false

def Callable (P : Program) (f : FuncId) : Prop := ∃ fn, P.funcs[f]? = some fn ∧ (fn.name == "runtime.NumGoroutine") = false ∧ fn.body.isNone = false

/-- What a call does, over abstract states. -/
def ACalls (P : Program) (C : Base) (f : FuncId) (args : List AV) (H : Heap) (R : AV → Heap → Prop) : Prop :=
  Callable P f ∧ ∀ m w (vals : Array Value), RepH C m w H → rels m w args vals.toList → Calls P f vals w fun e w' => ∃ rv m' H' r, e = .returned rv ∧ Fwd C m w m' w' H' ∧ rel m' w' r rv ∧ R r H'

variable {P : Program} {C : Base}

theorem ACalls.mono {f : FuncId} {args : List AV} {H : Heap} {R R' : AV → Heap → Prop} (h : ACalls P C f args H R) (hr : ∀ r H', R r H' → R' r H') : ACalls P C f args H R' :=
  ⟨h.1, fun m w vals h1 h2 => (h.2 m w vals h1 h2).mono fun e w' ⟨rv, m', H', r, a, b, c, d⟩ => ⟨rv, m', H', r, a, b, c, hr _ _ d⟩⟩

theorem Fwd.trans {m m' m2 : Places} {w w' w2 : World} {H' H2 : Heap} (h : Fwd C m w m' w' H') (k : Fwd C m' w' m2 w2 H2) : Fwd C m w m2 w2 H2 :=
  ⟨h.pre.trans k.pre, h.szs.trans k.szs, k.rep⟩

def callOf (env : Env) (c : Call) : Option (FuncId × List AV) :=
  match c.callee with
  | .value x => match opA env x with
    | .fn (.func f) fi ca => some (f, fi ++ c.args.toList.map (opA env) ++ ca)
    | _ => none
  | _ => none

/-- Is an operation carried out? -/
def wantA (ops : Array Oper) (o : Oper) (env : Env) : Option Bool :=
  match o.guard with
  | none => some true
  | some (j, want) => match (ops[j]?).bind (·.dst) with
    | some d => match env.getD d .any with
      | .val (.bool b) => some (b == want)
      | .val (.tuple _) => some false
      | _ => none
    | none => none

/-- A call among operations; in a region that draws its order it answers in one way, and adds objects alone. -/
def callK (P : Program) (C : Base) (d : Option (List Nat)) (f : FuncId) (args : List AV) (H : Heap) (X : AV → Heap → Prop) : Prop :=
  match d with
  | none => ACalls P C f args H X
  | some q => (∃ r H', ACalls P C f args H (fun r' H2 => r' = r ∧ H2 = H') ∧ H <+: H' ∧ (q.contains f = true → H' = H ∧ ∀ G, ACalls P C f args (H ++ G) (fun r' H2 => r' = r ∧ H2 = H ++ G)) ∧ X r H') ∨
    (q.contains f = false ∧ ∃ R : AV → Heap → Prop, ACalls P C f args H R ∧ (∀ r H', R r H' → H <+: H') ∧ (∃ r H', R r H') ∧ ∀ r H', R r H' → X r H')
theorem callK_calls {d : Option (List Nat)} {f : FuncId} {args : List AV} {H : Heap} {X : AV → Heap → Prop} (h : callK P C d f args H X) : ACalls P C f args H X := by
  unfold callK at h
  split at h
  · exact h
  · rcases h with ⟨r, H', h1, _, _, h2⟩ | ⟨_, R, h1, _, _, h2⟩
    · exact h1.mono fun r' H2 ⟨e1, e2⟩ => e1 ▸ e2 ▸ h2
    · exact h1.mono h2

def aops (P : Program) (C : Base) (d : Option (List Nat)) (ops : Array Oper) : List Oper → Env → Heap → (Env → Heap → Prop) → Prop
  | [], env, H, K => K env H
  | o :: rest, env, H, K =>
    match wantA ops o env with
    | some false => aops P C d ops rest (setD env o.dst (.val undef)) H K
    | some true => match o.op with
      | .call c => match callOf env c with
        | some (f, args) => callK P C d f args H fun r H' => aops P C d ops rest (setD env o.dst r) H' K
        | none => match astep P o env H with
          | some (r, H') => aops P C d ops rest (setD env o.dst r) H' K
          | none => False
      | _ => match astep P o env H with
        | some (r, H') => aops P C d ops rest (setD env o.dst r) H' K
        | none => False
    | none => False

theorem wantA_wanted {ops : Array Oper} {o : Oper} {env : Env} {b : Bool} (h : wantA ops o env = some b) {m : Places} {w : World} {a : Act} (hE : RepE m w env a) : Region.wanted o (yielded ops a.tmps) = b := by
  unfold wantA at h
  unfold Region.wanted
  split at h
  · rename_i hg
    rw [hg]
    exact Option.some.inj h
  · rename_i j want hg
    rw [hg]
    simp only
    split at h
    · rename_i d hd
      have hr := hE.get d
      split at h
      · rename_i t ht
        rw [ht] at hr
        have hr' : a.tmps.getD d undef = .bool t := hr
        obtain rfl := Option.some.inj h
        have : a.tmps[d]? = some (.bool t) := by
          rw [Array.getD_eq_getD_getElem?] at hr'
          cases h1 : a.tmps[d]? with
          | none => rw [h1] at hr'; cases hr'
          | some v => rw [h1] at hr'; simp at hr'; rw [hr']
        simp only [yielded, hd, Option.bind_some, this]
        cases t <;> cases want <;> rfl
      · rename_i vs ht
        rw [ht] at hr
        have hr' : a.tmps.getD d undef = .tuple vs := hr
        obtain rfl := Option.some.inj h
        rw [Array.getD_eq_getD_getElem?] at hr'
        simp only [yielded, hd, Option.bind_some]
        cases h1 : a.tmps[d]? with
        | none => cases want <;> rfl
        | some v => rw [h1] at hr'; simp at hr'; rw [hr']; cases want <;> rfl
      · cases h
    · cases h

theorem run_callFunc {f : FuncId} {args : Array Value} {w : World} (h : Callable P f) : (callFunc f args).run P w = .ok (.enter f args) w := by
  obtain ⟨fn, h1, h2, h3⟩ := h
  unfold callFunc
  have h2' : fn.name ≠ "runtime.NumGoroutine" := by simpa using h2
  have h3' : fn.body ≠ none := by intro e; rw [e] at h3; cases h3
  simp [program, Sem.run, h1, h2', h3', bind, Sem.bind, pure]

def okOp (n : Nat) (o : Oper) : Bool := o.op.operands.all (okX n)

theorem callOf_run {env : Env} {c : Call} {f : FuncId} {args : List AV} (h : callOf env c = some (f, args)) {o : Oper} (ho : o.op = .call c) {m : Places} {w : World} {H : Heap} {a : Act} (hH : RepH C m w H) (hE : RepE m w env a) (hx : okOp C.nG o = true) (hc : Callable P f) :
    ∃ vals : Array Value, (execOp a.eval o).run P w = .ok (.enter f vals) w ∧ rels m w args vals.toList := by
  have hmem : ∀ x ∈ o.op.operands, okX C.nG x = true := fun x hxm => by unfold okOp at hx; rw [Array.all_eq_true_iff_forall_mem] at hx; exact hx x hxm
  rw [ho] at hmem
  unfold callOf at h
  split at h
  · rename_i x hv
    split at h
    · rename_i g fi ca hx'
      simp only [Option.some.injEq, Prod.mk.injEq] at h
      obtain ⟨rfl, rfl⟩ := h
      have h1 := opA_rel hE hH (okX_spec (hmem x (by show x ∈ Call.operands c; unfold Call.operands; rw [hv]; simp)))
      rw [hx'] at h1
      obtain ⟨vs, us, h2, h3, h4⟩ := h1
      have h5 := rels_map_opA hE hH (xs := c.args.toList) fun z hz => hmem z (by show z ∈ Call.operands c; unfold Call.operands; rw [hv]; simp; right; simpa using hz)
      refine ⟨vs ++ c.args.map a.eval ++ us, ?_, by simpa using rels_append (rels_append h3 h5) h4⟩
      simp only [execOp, ho, resolve, hv, h2, Deferred.ofValue, Sem.run_bind, Sem.run_pure, Result.andThen_ok, invoke]
      exact run_callFunc hc
    · cases h
  · cases h

theorem aops_sound {d : Option (List Nat)} {ops : Array Oper} : ∀ {l : List Oper} {env : Env} {H : Heap} {K : Env → Heap → Prop}, aops P C d ops l env H K → l.all (okOp C.nG) = true → ∀ {m : Places} {w : World} {a : Act}, RepH C m w H → RepE m w env a →
    ∀ {Q : Exit → Act → World → Prop}, (∀ m' w' a' env' H', Fwd C m w m' w' H' → RepE m' w' env' a' → K env' H' → Q .normal a' w') → wpList P ops Q l a w
  | [], env, H, K, h, _, m, w, a, hH, hE, Q, hQ => hQ m w a env H ⟨List.prefix_refl m, Szs.refl w, hH⟩ hE h
  | o :: rest, env, H, K, h, hok, m, w, a, hH, hE, Q, hQ => by
    simp only [List.all_cons, Bool.and_eq_true] at hok
    have hx : o.op.operands.all (okX C.nG) = true := hok.1
    unfold wpList
    unfold aops at h
    have stepped : ∀ {r : AV} {H' : Heap}, astep P o env H = some (r, H') → aops P C d ops rest (setD env o.dst r) H' K → o.wp P a w (wpList P ops Q rest) Q := by
      intro r H' hs hk
      obtain ⟨nxt, m', w', h1, h2, h3⟩ := astep_run hs hH hE hx
      unfold Oper.wp
      rw [h1]
      have hE' := hE.more h3.pre h3.szs
      rcases h2 with ⟨u, rfl, hu⟩ | ⟨rfl, rfl⟩
      · exact aops_sound hk hok.2 h3.rep (hE'.put o.dst hu) fun m2 w2 a2 e2 H2 k1 k2 k3 => hQ m2 w2 a2 e2 H2 (h3.trans k1) k2 k3
      · exact aops_sound hk hok.2 h3.rep (hE'.put o.dst (v := undef) trivial) fun m2 w2 a2 e2 H2 k1 k2 k3 => hQ m2 w2 a2 e2 H2 (h3.trans k1) k2 k3
    split at h
    · rename_i hw
      rw [if_neg (by rw [wantA_wanted hw hE]; simp)]
      exact aops_sound h hok.2 hH (hE.put o.dst rfl) hQ
    · rename_i hw
      rw [if_pos (wantA_wanted hw hE)]
      left
      split at h
      · rename_i c ho
        split at h
        · rename_i f args hc
          have h := callK_calls h
          obtain ⟨vals, h1, h2⟩ := callOf_run hc ho hH hE hok.1 h.1
          unfold Oper.wp
          rw [h1, Oper.upon_enter]
          refine (h.2 m w vals hH h2).mono ?_
          rintro e w' ⟨rv, m', H', r, rfl, k1, k2, k3⟩
          exact aops_sound k3 hok.2 k1.rep ((hE.more k1.pre k1.szs).put o.dst k2) fun m2 w2 a2 e2 H2 q1 q2 q3 => hQ m2 w2 a2 e2 H2 (k1.trans q1) q2 q3
        · split at h
          · rename_i r H' hs
            exact stepped hs h
          · exact h.elim
      · split at h
        · rename_i r H' hs
          exact stepped hs h
        · exact h.elim
    · exact h.elim

end Go.Proofs.YtlfpjdcogkcjlaaGreatDoor.AL
/-
  Regions that draw their order: where each two operations that would meet are ordered, the program's order stands for all.
-/
namespace Go.Proofs.YtlfpjdcogkcjlaaGreatDoor.AL
open Go.RowKit
set_option linter.unusedVariables false
set_option linter.unusedSimpArgs false
variable {P : Program} {C : Base}

def Lift (C : Base) (Q : Exit → Env → Heap → Prop) (m : Places) (w : World) : Exit → Act → World → Prop := fun ex a' w' => ∃ m' env' H', Fwd C m w m' w' H' ∧ RepE m' w' env' a' ∧ Q ex env' H'
def AWp (P : Program) (C : Base) (c : Code) (env : Env) (H : Heap) (Q : Exit → Env → Heap → Prop) : Prop :=
  ∀ m w a, RepH C m w H → RepE m w env a → c.wp P (Lift C Q m w) a w

/-- What an operation has to do with the objects. -/
inductive Cl where
  | pure | read | look | quiet | new | put | turn
  deriving DecidableEq
def Cl.rd : Cl → Bool
  | .read => true
  | .look => true
  | _ => false
def clOf (q : List Nat) (o : Oper) : Cl :=
  match o.op with
  | .move _ => .pure
  | .assign _ => .pure
  | .pick .. => .pure
  | .build .. => .pure
  | .nilCheck _ => .pure
  | .binOp .. => .pure
  | .unOp .. => .pure
  | .convert .. => .pure
  | .fieldAddr .. => .pure
  | .indexAddr .. => .pure
  | .index .. => .pure
  | .extract .. => .pure
  | .makeInterface .. => .pure
  | .makeFunc .. => .pure
  | .slice .. => .pure
  | .load .. => .read
  | .lookup .. => .look
  | .store .. => .put
  | .alloc _ => .new
  | .box .. => .new
  | .buildSlice .. => .new
  | .makeMap .. => .new
  | .call c => match c.callee with
    | .builtin .len => .pure
    | .builtin .max => .pure
    | .builtin .min => .pure
    | .value (.func f) => if q.contains f then .quiet else .new
    | .value _ => .new
    | _ => .turn
  | _ => .turn

theorem clOf_call {q : List Nat} {o : Oper} {c : Call} (ho : o.op = .call c) : (clOf q o).rd = false := by
  unfold clOf
  simp only [ho]
  split <;> (try split) <;> rfl
theorem clOf_value {q : List Nat} {o : Oper} {c : Call} {x : Operand} (ho : o.op = .call c) (hx : c.callee = .value x) : clOf q o = .quiet ∨ clOf q o = .new := by
  unfold clOf
  simp only [ho, hx]
  cases x with
  | func f =>
    simp only
    split
    · exact .inl rfl
    · exact .inr rfl
  | _ => exact .inr rfl
theorem clOf_quiet {q : List Nat} {o : Oper} (h : clOf q o = .quiet) : ∃ c f, o.op = .call c ∧ c.callee = .value (.func f) ∧ q.contains f = true := by
  unfold clOf at h
  cases ho : o.op <;> simp only [ho, reduceCtorEq] at h
  case call c =>
    cases hx : c.callee with
    | value x =>
      cases x with
      | func f =>
        simp only [hx] at h
        split at h
        · exact ⟨c, f, rfl, hx, by assumption⟩
        · cases h
      | _ => simp [hx] at h
    | builtin b => cases b <;> simp [hx] at h
    | _ => simp [hx] at h
def Same (g : Heap → Ans) : Prop := ∀ {H H' : Heap} {r : AV}, g H = some (r, H') → H' = H ∧ ∀ H2, g H2 = some (r, H2)
theorem same_build (t : TypeId) (l : List (Nat × List AV)) : Same (buildA P t l) := by
  intro H H' r h
  unfold buildA at h ⊢
  repeat' split at h
  all_goals first
    | (cases h; done)
    | (simp only [Option.some.injEq, Prod.mk.injEq] at h; obtain ⟨rfl, rfl⟩ := h; exact ⟨rfl, fun _ => by simp_all⟩)
    | (obtain ⟨c, h1, h2⟩ := Option.map_eq_some_iff.1 h; simp only [Prod.mk.injEq] at h2; obtain ⟨rfl, rfl⟩ := h2; exact ⟨rfl, fun _ => by simp_all⟩)
theorem same_field (t : TypeId) (x : AV) (f : Nat) : Same (fieldAddrA P t x f) := by
  intro H H' r h
  unfold fieldAddrA at h ⊢
  split at h
  · simp only [Option.some.injEq, Prod.mk.injEq] at h
    obtain ⟨rfl, rfl⟩ := h
    exact ⟨rfl, fun _ => rfl⟩
  · cases h
theorem same_index (t : TypeId) (x i : AV) : Same (indexAddrA P t x i) := by
  intro H H' r h
  unfold indexAddrA at h ⊢
  split at h
  · split at h
    · split at h
      · simp only [Option.some.injEq, Prod.mk.injEq] at h
        obtain ⟨rfl, rfl⟩ := h
        exact ⟨rfl, fun _ => by simp_all⟩
      · cases h
    · cases h
  · split at h
    · split at h
      · simp only [Option.some.injEq, Prod.mk.injEq] at h
        obtain ⟨rfl, rfl⟩ := h
        exact ⟨rfl, fun _ => by simp_all⟩
      · cases h
    · cases h
  · cases h
theorem same_slice (t : TypeId) (x : AV) (lo hi : Option AV) : Same (sliceA P t x lo hi) := by
  intro H H' r h
  unfold sliceA at h ⊢
  split at h
  · split at h
    · split at h
      · simp only [Option.some.injEq, Prod.mk.injEq] at h
        obtain ⟨rfl, rfl⟩ := h
        exact ⟨rfl, fun _ => by simp_all⟩
      · cases h
    · cases h
  · split at h
    · simp only [Option.some.injEq, Prod.mk.injEq] at h
      obtain ⟨rfl, rfl⟩ := h
      exact ⟨rfl, fun _ => by simp_all⟩
    · cases h
  · split at h
    · split at h
      · simp only [Option.some.injEq, Prod.mk.injEq] at h
        obtain ⟨rfl, rfl⟩ := h
        exact ⟨rfl, fun _ => by simp_all⟩
      · cases h
    · cases h
  · cases h

theorem same_builtin (b : Builtin) (ty : TypeId) (args : List AV) (ts : Array TypeId) (hb : b ≠ .append) : Same (builtinA P b ty args ts) := by
  intro H H' r h
  unfold builtinA at h ⊢
  split at h
  · obtain ⟨c, h1, h2⟩ := Option.map_eq_some_iff.1 h
    simp only [Prod.mk.injEq] at h2
    obtain ⟨rfl, rfl⟩ := h2
    exact ⟨rfl, fun _ => by simp_all⟩
  · exact absurd rfl hb
  · obtain ⟨l, h1, h2⟩ := Option.bind_eq_some_iff.1 h
    obtain ⟨c, h3, h4⟩ := Option.map_eq_some_iff.1 h2
    simp only [Prod.mk.injEq] at h4
    obtain ⟨rfl, rfl⟩ := h4
    exact ⟨rfl, fun H2 => by simp_all⟩
  · obtain ⟨l, h1, h2⟩ := Option.bind_eq_some_iff.1 h
    obtain ⟨c, h3, h4⟩ := Option.map_eq_some_iff.1 h2
    simp only [Prod.mk.injEq] at h4
    obtain ⟨rfl, rfl⟩ := h4
    exact ⟨rfl, fun H2 => by simp_all⟩
  · cases h
theorem same_const (r : AV) : Same fun H => some (r, H) := by
  intro H H' r' h
  simp only [Option.some.injEq, Prod.mk.injEq] at h
  obtain ⟨rfl, rfl⟩ := h
  exact ⟨rfl, fun _ => rfl⟩
theorem same_map (x : Option AV) : Same fun H => x.map fun c => (c, H) := by
  intro H H' r' h
  obtain ⟨c, h1, h2⟩ := Option.map_eq_some_iff.1 h
  simp only [Prod.mk.injEq] at h2
  obtain ⟨rfl, rfl⟩ := h2
  exact ⟨rfl, fun _ => by rw [h1]; rfl⟩
theorem same_bind {α : Type} (x : Option α) (f : α → Option AV) : Same fun H => x.bind fun a => (f a).map fun r => (r, H) := by
  intro H H' r' h
  obtain ⟨l, h1, h2⟩ := Option.bind_eq_some_iff.1 h
  obtain ⟨c, h3, h4⟩ := Option.map_eq_some_iff.1 h2
  simp only [Prod.mk.injEq] at h4
  obtain ⟨rfl, rfl⟩ := h4
  exact ⟨rfl, fun H2 => by simp only [h1, Option.bind_some, h3, Option.map_some]⟩
theorem bind_map_val {α : Type} (x : Option α) (g : α → Option Value) (H : Heap) : (x.bind fun v => (g v).map fun r => (AV.val r, H)) = x.bind fun a => ((g a).map AV.val).map fun r => (r, H) := by
  cases x with
  | none => rfl
  | some a => cases h : g a <;> simp [h]

theorem astep_pure {q : List Nat} {o : Oper} {env : Env} {H H' : Heap} {r : AV} (h : astep P o env H = some (r, H')) (hc : clOf q o = .pure) : H' = H ∧ ∀ H2, astep P o env H2 = some (r, H2) := by
  unfold astep at h ⊢
  unfold clOf at hc
  cases ho : o.op <;> simp only [ho, reduceCtorEq] at h hc ⊢
  case move x => exact same_const _ h
  case assign x => exact same_const _ h
  case pick c x y =>
    split at h
    · exact same_const _ h
    · cases h
  case build t ps =>
    obtain ⟨l, h1, h2⟩ := Option.bind_eq_some_iff.1 h
    obtain ⟨k1, k2⟩ := same_build _ _ h2
    exact ⟨k1, fun H2 => by rw [h1]; exact k2 H2⟩
  case nilCheck x =>
    split at h
    · exact same_const _ h
    · exact same_const _ h
    · cases h
  case binOp => exact same_map _ h
  case unOp => rw [bind_map_val] at h; obtain ⟨k1, k2⟩ := same_bind _ _ h; exact ⟨k1, fun H2 => by rw [bind_map_val]; exact k2 H2⟩
  case convert => rw [bind_map_val] at h; obtain ⟨k1, k2⟩ := same_bind _ _ h; exact ⟨k1, fun H2 => by rw [bind_map_val]; exact k2 H2⟩
  case fieldAddr => exact same_field _ _ _ h
  case indexAddr => exact same_index _ _ _ h
  case index => exact same_map _ h
  case extract => exact same_map _ h
  case makeInterface =>
    split at h
    · exact same_const _ h
    · cases h
  case makeFunc => exact same_const _ h
  case slice t x lo hi mx =>
    cases mx with
    | none => exact same_slice _ _ _ _ h
    | some _ => cases h
  case call c =>
    split at h
    · rename_i b hb
      simp only [hb] at hc
      have : b ≠ .append := by intro e; rw [e] at hc; cases hc
      obtain ⟨k1, k2⟩ := same_builtin _ _ _ _ this h
      exact ⟨k1, fun H2 => k2 H2⟩
    · cases h

/-- Objects added at the end are not met by what was there. -/
theorem get_more {H G : Heap} {o : Nat} {x : AObj} (h : H[o]? = some x) : (H ++ G)[o]? = some x := by
  rw [List.getElem?_append_left (List.getElem?_eq_some_iff.1 h).1]; exact h
theorem get_less {H G : Heap} {o : Nat} (h : o < H.length) : (H ++ G)[o]? = H[o]? := List.getElem?_append_left h
theorem cellsOf_less {H G : Heap} {o : Nat} (h : o < H.length) : cellsOf (H ++ G) o = cellsOf H o := by unfold cellsOf; rw [get_less h]
theorem cellsOf_lt {H : Heap} {o : Nat} {cs : List AV} (h : cellsOf H o = some cs) : o < H.length := by
  rcases Nat.lt_or_ge o H.length with h1 | h1
  · exact h1
  · unfold cellsOf at h; rw [List.getElem?_eq_none h1] at h; cases h

/-- Is it a state at all? -/
def Poss (C : Base) (env : Env) (H : Heap) : Prop := ∃ m w a, RepH C m w H ∧ RepE m w env a
theorem Poss.lt {env : Env} {H : Heap} (h : Poss C env H) {x : Operand} (hx : okX C.nG x = true) : (∀ o off, opA env x = .ptr o off → o < H.length) ∧ (∀ o, opA env x = .mp o → o < H.length) := by
  obtain ⟨m, w, a, h1, h2⟩ := h
  have h3 := opA_rel h2 h1 (okX_spec hx)
  constructor
  · intro o off he
    rw [he] at h3
    obtain ⟨b, hb, _⟩ := h3
    rw [← h1.len]; exact (List.getElem?_eq_some_iff.1 hb).1
  · intro o he
    rw [he] at h3
    obtain ⟨b, hb, _⟩ := h3
    rw [← h1.len]; exact (List.getElem?_eq_some_iff.1 hb).1

theorem loadA_less {t : TypeId} {x : AV} {H G : Heap} (hx : ∀ o off, x = .ptr o off → o < H.length) : loadA P t x (H ++ G) = (loadA P t x H).map fun c => (c.1, H ++ G) := by
  unfold loadA
  cases x with
  | ptr o off =>
    simp only [cellsOf_less (hx o off rfl)]
    cases cellsOf H o with
    | none => rfl
    | some cs =>
      cases kd P t with
      | none => rfl
      | some k => cases k with
        | one => simp only [Option.map_map]; rfl
        | many n => simp only; split <;> rfl
  | _ => rfl
theorem lookupA_less {t : TypeId} {x k : AV} {ok : Bool} {H G : Heap} (hx : ∀ o, x = .mp o → o < H.length) : lookupA P t x k ok (H ++ G) = lookupA P t x k ok H := by
  unfold lookupA
  cases isStrMap P t with
  | none => rfl
  | some e => cases x with
    | mp o => cases k with
      | val v => cases v with
        | string s => simp only [get_less (hx o rfl)]
        | _ => rfl
      | _ => rfl
    | _ => rfl
theorem loadA_lt {t : TypeId} {x : AV} {H H' : Heap} {r : AV} (h : loadA P t x H = some (r, H')) : ∀ o off, x = .ptr o off → o < H.length := by
  rintro o off rfl
  unfold loadA at h
  cases hc : cellsOf H o with
  | none => simp [hc] at h
  | some cs => exact cellsOf_lt hc
theorem loadA_same {t : TypeId} {x : AV} {H H' : Heap} {r : AV} (h : loadA P t x H = some (r, H')) : H' = H := by
  unfold loadA at h
  repeat' split at h
  all_goals first
    | (cases h; done)
    | (simp only [Option.some.injEq, Prod.mk.injEq] at h; exact h.2.symm)
    | (obtain ⟨c, h1, h2⟩ := Option.map_eq_some_iff.1 h; simp only [Prod.mk.injEq] at h2; exact h2.2.symm)
theorem lookupA_lt {t : TypeId} {x k : AV} {ok : Bool} {H : Heap} {r : AV} (h : lookupA P t x k ok H = some r) : ∀ o, x = .mp o → o < H.length := by
  rintro o rfl
  rcases Nat.lt_or_ge o H.length with h1 | h1
  · exact h1
  · exfalso
    unfold lookupA at h
    cases hi : isStrMap P t with
    | none => rw [hi] at h; cases h
    | some e => rw [hi] at h; cases k with
      | val v => cases v with
        | string s => simp only [List.getElem?_eq_none h1] at h; cases h
        | _ => cases h
      | _ => cases h

theorem astep_read {q : List Nat} {o : Oper} {env : Env} {H H' : Heap} {r : AV} (h : astep P o env H = some (r, H')) (hc : (clOf q o).rd = true) : H' = H ∧ ∀ G, astep P o env (H ++ G) = some (r, H ++ G) := by
  unfold astep at h ⊢
  have hnc : ∀ c, o.op ≠ .call c := fun c e => by rw [clOf_call e] at hc; cases hc
  unfold clOf at hc
  cases ho : o.op <;> simp only [ho, Cl.rd, reduceCtorEq, Bool.false_eq_true] at h hc ⊢
  case call c => exact absurd ho (hnc c)
  case load t x =>
    obtain rfl := loadA_same h
    exact ⟨rfl, fun G => by rw [loadA_less (loadA_lt h), h]; rfl⟩
  case lookup t x k ok =>
    obtain ⟨c, h1, h2⟩ := Option.map_eq_some_iff.1 h
    simp only [Prod.mk.injEq] at h2
    obtain ⟨rfl, rfl⟩ := h2
    exact ⟨rfl, fun G => by rw [lookupA_less (lookupA_lt h1), h1]; rfl⟩
/-- What an operation looks at lies among the objects. -/
def PtrLt (o : Oper) (env : Env) (n : Nat) : Prop := ∀ x ∈ o.op.operands, (∀ o' off, opA env x = .ptr o' off → o' < n) ∧ (∀ o', opA env x = .mp o' → o' < n)
theorem Poss.ptr {o : Oper} {env : Env} {H : Heap} (hp : Poss C env H) (hok : okOp C.nG o = true) : PtrLt o env H.length := fun x hxm => hp.lt (by unfold okOp at hok; rw [Array.all_eq_true_iff_forall_mem] at hok; exact hok x hxm)
theorem astep_back {q : List Nat} {o : Oper} {env : Env} {H G H' : Heap} {r : AV} (h : astep P o env (H ++ G) = some (r, H')) (hc : (clOf q o).rd = true) (hp : PtrLt o env H.length) : astep P o env H = some (r, H) := by
  unfold astep at h ⊢
  have hnc : ∀ c, o.op ≠ .call c := fun c e => by rw [clOf_call e] at hc; cases hc
  unfold clOf at hc
  cases ho : o.op <;> simp only [ho, Cl.rd, reduceCtorEq, Bool.false_eq_true] at h hc ⊢
  case call c => exact absurd ho (hnc c)
  case load t x =>
    have hx := (hp x (by simp [ho, Op.operands])).1
    rw [loadA_less hx] at h
    obtain ⟨c, h1, h2⟩ := Option.map_eq_some_iff.1 h
    simp only [Prod.mk.injEq] at h2
    obtain ⟨rfl, rfl⟩ := h2
    rw [h1]
    have := loadA_same (r := c.1) (H' := c.2) h1
    rw [← this]
  case lookup t x k ok =>
    obtain ⟨c, h1, h2⟩ := Option.map_eq_some_iff.1 h
    simp only [Prod.mk.injEq] at h2
    obtain ⟨rfl, rfl⟩ := h2
    rw [lookupA_less (hp x (by simp [ho, Op.operands])).2] at h1
    rw [h1]; rfl
theorem buildSliceA_new {t n : Nat} {l : List (Nat × List AV)} {H H' : Heap} {r : AV} (h : buildSliceA P t n l H = some (r, H')) : H <+: H' := by
  unfold buildSliceA at h
  repeat' split at h
  all_goals first
    | (cases h; done)
    | (simp only [Option.some.injEq, Prod.mk.injEq] at h; rw [← h.2]; exact List.prefix_append ..)
theorem astep_new {q : List Nat} {o : Oper} {env : Env} {H H' : Heap} {r : AV} (h : astep P o env H = some (r, H')) (hc : clOf q o = .new) : H <+: H' := by
  unfold astep at h
  unfold clOf at hc
  cases ho : o.op <;> simp only [ho, reduceCtorEq] at h hc
  case alloc e =>
    repeat' split at h
    all_goals first
      | (cases h; done)
      | (simp only [Option.some.injEq, Prod.mk.injEq] at h; rw [← h.2]; exact List.prefix_append ..)
  case box e x =>
    obtain ⟨c, h1, h2⟩ := Option.map_eq_some_iff.1 h
    simp only [Prod.mk.injEq] at h2
    rw [← h2.2]; exact List.prefix_append ..
  case buildSlice t n ps =>
    obtain ⟨l, h1, h2⟩ := Option.bind_eq_some_iff.1 h
    exact buildSliceA_new h2
  case makeMap t x =>
    cases x with
    | none => simp only [Option.some.injEq, Prod.mk.injEq] at h; rw [← h.2]; exact List.prefix_append ..
    | some _ => cases h
  case call c =>
    split at h
    · rename_i b hb
      simp only [hb] at hc
      split at hc <;> simp_all
    · cases h

theorem partsA_congr {env env' : Env} : ∀ {l : List (Nat × Operand)}, (∀ p ∈ l, opA env p.2 = opA env' p.2) → partsA env l = partsA env' l
  | [], _ => rfl
  | (i, x) :: l, h => by
    unfold partsA
    rw [h (i, x) (List.mem_cons_self ..), partsA_congr fun p hp => h p (List.mem_cons_of_mem _ hp)]
theorem map_opA_congr {env env' : Env} {l : List Operand} (h : ∀ x ∈ l, opA env x = opA env' x) : l.map (opA env) = l.map (opA env') := List.map_congr_left h
theorem optmap_congr {env env' : Env} {x : Option Operand} (h : ∀ y, x = some y → opA env y = opA env' y) : x.map (opA env) = x.map (opA env') := by
  cases x with
  | none => rfl
  | some y => simp only [Option.map_some, h y rfl]
theorem astep_congr {o : Oper} {env env' : Env} {H : Heap} (h : ∀ x ∈ o.op.operands, opA env x = opA env' x) : astep P o env H = astep P o env' H := by
  unfold astep
  cases ho : o.op <;> simp only [ho] at h ⊢
  case move x => rw [h x (by simp [Op.operands])]
  case assign x => rw [h x (by simp [Op.operands])]
  case pick c x y => rw [h c (by simp [Op.operands]), h x (by simp [Op.operands]), h y (by simp [Op.operands])]
  case box e x => rw [h x (by simp [Op.operands])]
  case build t ps => rw [partsA_congr fun p hp => h p.2 (by simp [Op.operands]; exact ⟨p.1, by simpa using hp⟩)]
  case buildSlice t n ps => rw [partsA_congr fun p hp => h p.2 (by simp [Op.operands]; exact ⟨p.1, by simpa using hp⟩)]
  case load t x => rw [h x (by simp [Op.operands])]
  case store t x y => rw [h x (by simp [Op.operands]), h y (by simp [Op.operands])]
  case nilCheck x => rw [h x (by simp [Op.operands])]
  case binOp op t x y _ => rw [h x (by simp [Op.operands]), h y (by simp [Op.operands])]
  case unOp op _ x => rw [h x (by simp [Op.operands])]
  case convert s d x => rw [h x (by simp [Op.operands])]
  case slice t x lo hi mx =>
    cases mx with
    | none => simp only; rw [h x (by simp [Op.operands]), optmap_congr (x := lo) fun y hy => h y (by simp [Op.operands, hy]), optmap_congr (x := hi) fun y hy => h y (by simp [Op.operands, hy])]
    | some _ => rfl
  case makeMap t x => cases x <;> rfl
  case fieldAddr s x f => rw [h x (by simp [Op.operands])]
  case indexAddr t x i => rw [h x (by simp [Op.operands]), h i (by simp [Op.operands])]
  case index t x i => rw [h x (by simp [Op.operands]), h i (by simp [Op.operands])]
  case lookup t x k ok => rw [h x (by simp [Op.operands]), h k (by simp [Op.operands])]
  case insert t x k y => rw [h x (by simp [Op.operands]), h k (by simp [Op.operands]), h y (by simp [Op.operands])]
  case mapUpdate t x k y => rw [h x (by simp [Op.operands]), h k (by simp [Op.operands]), h y (by simp [Op.operands])]
  case makeSlice t x y => rw [h x (by simp [Op.operands]), h y (by simp [Op.operands])]
  case extract x i => rw [h x (by simp [Op.operands])]
  case makeInterface t x => rw [h x (by simp [Op.operands])]
  case makeFunc f x y => rw [map_opA_congr (l := x.toList) fun z hz => h z (by simp [Op.operands]; exact .inl (by simpa using hz)), map_opA_congr (l := y.toList) fun z hz => h z (by simp [Op.operands]; exact .inr (by simpa using hz))]
  case call c =>
    split
    · rename_i b hb
      rw [map_opA_congr (l := c.args.toList) fun z hz => h z (by show z ∈ Call.operands c; unfold Call.operands; rw [hb]; simpa using hz)]
    · rfl
theorem callOf_congr {c : Call} {env env' : Env} (h : ∀ x ∈ c.operands, opA env x = opA env' x) : callOf env c = callOf env' c := by
  unfold callOf
  split
  · rename_i x hv
    rw [h x (by unfold Call.operands; rw [hv]; simp), map_opA_congr (l := c.args.toList) fun z hz => h z (by unfold Call.operands; rw [hv]; simp; right; simpa using hz)]
  · rfl

/-- One operation's answer. -/
def dstep (P : Program) (C : Base) (q : List Nat) (ops : Array Oper) (o : Oper) (env : Env) (H : Heap) (r : AV) (H' : Heap) : Prop :=
  (wantA ops o env = some false ∧ r = .val undef ∧ H' = H) ∨
  (wantA ops o env = some true ∧ ((∃ c f args, o.op = .call c ∧ callOf env c = some (f, args) ∧ ACalls P C f args H (fun r' H2 => r' = r ∧ H2 = H') ∧ H <+: H' ∧ (q.contains f = true → H' = H ∧ ∀ G, ACalls P C f args (H ++ G) (fun r' H2 => r' = r ∧ H2 = H ++ G))) ∨ ((∀ c, o.op = .call c → callOf env c = none) ∧ astep P o env H = some (r, H'))))
/-- One operation: it answers in one way, or it is a call that may answer in several and adds objects alone. -/
def nstep (P : Program) (C : Base) (q : List Nat) (ops : Array Oper) (o : Oper) (env : Env) (H : Heap) (X : AV → Heap → Prop) : Prop :=
  (∃ r H', dstep P C q ops o env H r H' ∧ X r H') ∨
  (wantA ops o env = some true ∧ ∃ c f args, o.op = .call c ∧ callOf env c = some (f, args) ∧ q.contains f = false ∧ ∃ R : AV → Heap → Prop, ACalls P C f args H R ∧ (∀ r H', R r H' → H <+: H') ∧ (∃ r H', R r H') ∧ ∀ r H', R r H' → X r H')
theorem nstep_mono {q : List Nat} {ops : Array Oper} {o : Oper} {env : Env} {H : Heap} {X X' : AV → Heap → Prop} (hx : ∀ r H', X r H' → X' r H') (h : nstep P C q ops o env H X) : nstep P C q ops o env H X' := by
  rcases h with ⟨r, H', h1, h2⟩ | ⟨h0, c, f, args, h1, h2, h3, R, h4, h5, h6, h7⟩
  · exact .inl ⟨r, H', h1, hx _ _ h2⟩
  · exact .inr ⟨h0, c, f, args, h1, h2, h3, R, h4, h5, h6, fun r H' hr => hx _ _ (h7 r H' hr)⟩
theorem aops_step {q : List Nat} {ops : Array Oper} {o : Oper} {rest : List Oper} {env : Env} {H : Heap} {K : Env → Heap → Prop} (h : aops P C (some q) ops (o :: rest) env H K) : nstep P C q ops o env H fun r H' => aops P C (some q) ops rest (setD env o.dst r) H' K := by
  unfold aops at h
  split at h
  · rename_i hw; exact .inl ⟨_, _, .inl ⟨hw, rfl, rfl⟩, h⟩
  · rename_i hw
    split at h
    · rename_i c ho
      split at h
      · rename_i f args hc
        unfold callK at h
        rcases h with ⟨r, H', h1, h2, h2q, h3⟩ | ⟨h1, h2⟩
        · exact .inl ⟨r, H', .inr ⟨hw, .inl ⟨c, f, args, ho, hc, h1, h2, h2q⟩⟩, h3⟩
        · exact .inr ⟨hw, c, f, args, ho, hc, h1, h2⟩
      · rename_i hc
        split at h
        · rename_i r H' hs
          exact .inl ⟨r, H', .inr ⟨hw, .inr ⟨fun c' hc' => by rw [ho] at hc'; cases hc'; exact hc, hs⟩⟩, h⟩
        · exact h.elim
    · rename_i hne
      split at h
      · rename_i r H' hs
        exact .inl ⟨r, H', .inr ⟨hw, .inr ⟨fun c' hc' => absurd hc' (hne c'), hs⟩⟩, h⟩
      · exact h.elim
  · exact h.elim
theorem aops_cons {q : List Nat} {ops : Array Oper} {o : Oper} {rest : List Oper} {env : Env} {H : Heap} {K : Env → Heap → Prop} (h : nstep P C q ops o env H fun r H' => aops P C (some q) ops rest (setD env o.dst r) H' K) : aops P C (some q) ops (o :: rest) env H K := by
  unfold aops
  rcases h with ⟨r, H', hd, h⟩ | ⟨hw, c, f, args, ho, hc, h1, h2⟩
  · rcases hd with ⟨hw, rfl, rfl⟩ | ⟨hw, ⟨c, f, args, ho, hc, h1, h2⟩ | ⟨hc, hs⟩⟩
    · rw [hw]; exact h
    · rw [hw]
      simp only [ho, hc]
      unfold callK
      exact .inl ⟨r, H', h1, h2.1, h2.2, h⟩
    · rw [hw]
      simp only
      split
      · rename_i c ho
        rw [hc c ho]
        simp only [hs]
        exact h
      · simp only [hs]
        exact h
  · rw [hw]
    simp only [ho, hc]
    unfold callK
    exact .inr ⟨h1, h2⟩

theorem callOf_callee {env : Env} {c : Call} {f : FuncId} {args : List AV} (h : callOf env c = some (f, args)) : ∃ x, c.callee = .value x ∧ ∀ g, x = .func g → g = f := by
  unfold callOf at h
  split at h
  · rename_i x hv
    refine ⟨x, hv, fun g hg => ?_⟩
    subst hg
    simp only [opA, Option.some.injEq, Prod.mk.injEq] at h
    exact h.1
  · cases h
theorem dstep_pure {q : List Nat} {ops : Array Oper} {o : Oper} {env : Env} {H H' : Heap} {r : AV} (h : dstep P C q ops o env H r H') (hc : clOf q o = .pure) : H' = H ∧ ∀ H2, dstep P C q ops o env H2 r H2 := by
  rcases h with ⟨hw, rfl, rfl⟩ | ⟨hw, ⟨c, f, args, ho, hcl, h1, h2⟩ | ⟨hcl, hs⟩⟩
  · exact ⟨rfl, fun H2 => .inl ⟨hw, rfl, rfl⟩⟩
  · exfalso
    obtain ⟨x, hx, _⟩ := callOf_callee hcl
    rcases clOf_value (q := q) ho hx with e | e <;> rw [e] at hc <;> cases hc
  · obtain ⟨k1, k2⟩ := astep_pure hs hc
    exact ⟨k1, fun H2 => .inr ⟨hw, .inr ⟨hcl, k2 H2⟩⟩⟩
theorem dstep_read {q : List Nat} {ops : Array Oper} {o : Oper} {env : Env} {H H' : Heap} {r : AV} (h : dstep P C q ops o env H r H') (hc : (clOf q o).rd = true) : H' = H ∧ ∀ G, dstep P C q ops o env (H ++ G) r (H ++ G) := by
  rcases h with ⟨hw, rfl, rfl⟩ | ⟨hw, ⟨c, f, args, ho, hcl, h1, h2⟩ | ⟨hcl, hs⟩⟩
  · exact ⟨rfl, fun H2 => .inl ⟨hw, rfl, rfl⟩⟩
  · rw [clOf_call ho] at hc; cases hc
  · obtain ⟨k1, k2⟩ := astep_read hs hc
    exact ⟨k1, fun G => .inr ⟨hw, .inr ⟨hcl, k2 G⟩⟩⟩
theorem dstep_quiet {q : List Nat} {ops : Array Oper} {o : Oper} {env : Env} {H H' : Heap} {r : AV} (h : dstep P C q ops o env H r H') (hc : clOf q o = .quiet) : H' = H ∧ ∀ G, dstep P C q ops o env (H ++ G) r (H ++ G) := by
  rcases h with ⟨hw, rfl, rfl⟩ | ⟨hw, ⟨c, f, args, ho, hcl, h1, h2, h3⟩ | ⟨hcl, hs⟩⟩
  · exact ⟨rfl, fun H2 => .inl ⟨hw, rfl, rfl⟩⟩
  · obtain ⟨c', f', ho', hv', hq⟩ := clOf_quiet hc
    rw [ho] at ho'
    cases ho'
    obtain ⟨x, hx, hxf⟩ := callOf_callee hcl
    rw [hv'] at hx
    cases hx
    obtain rfl := hxf _ rfl
    obtain ⟨rfl, h4⟩ := h3 hq
    exact ⟨rfl, fun G => .inr ⟨hw, .inl ⟨c, f', args, ho, hcl, h4 G, List.prefix_refl _, fun _ => ⟨rfl, fun G' => by rw [List.append_assoc]; exact h4 (G ++ G')⟩⟩⟩⟩
  · obtain ⟨c, f, ho, hv, hq⟩ := clOf_quiet hc
    exfalso
    have := hcl c ho
    unfold callOf at this
    rw [hv] at this
    simp [opA] at this
theorem dstep_back {q : List Nat} {ops : Array Oper} {o : Oper} {env : Env} {H G H' : Heap} {r : AV} (h : dstep P C q ops o env (H ++ G) r H') (hc : (clOf q o).rd = true) (hp : PtrLt o env H.length) : H' = H ++ G ∧ dstep P C q ops o env H r H := by
  rcases h with ⟨hw, rfl, rfl⟩ | ⟨hw, ⟨c, f, args, ho, hcl, h1, h2⟩ | ⟨hcl, hs⟩⟩
  · exact ⟨rfl, .inl ⟨hw, rfl, rfl⟩⟩
  · rw [clOf_call ho] at hc; cases hc
  · exact ⟨(astep_read hs hc).1, .inr ⟨hw, .inr ⟨hcl, astep_back hs hc hp⟩⟩⟩
theorem dstep_new {q : List Nat} {ops : Array Oper} {o : Oper} {env : Env} {H H' : Heap} {r : AV} (h : dstep P C q ops o env H r H') (hc : clOf q o = .new) : H <+: H' := by
  rcases h with ⟨hw, rfl, rfl⟩ | ⟨hw, ⟨c, f, args, ho, hcl, h1, h2⟩ | ⟨hcl, hs⟩⟩
  · exact List.prefix_refl _
  · exact h2.1
  · exact astep_new hs hc
/-- A store, and a look into a map. -/
theorem clOf_put {q : List Nat} {o : Oper} (h : clOf q o = .put) : ∃ t x y, o.op = .store t x y := by
  unfold clOf at h
  cases ho : o.op <;> simp only [ho, reduceCtorEq] at h
  case store t x y => exact ⟨t, x, y, rfl⟩
  case call c => split at h <;> (try split at h) <;> cases h
theorem clOf_look {q : List Nat} {o : Oper} (h : clOf q o = .look) : ∃ t x k ok, o.op = .lookup t x k ok := by
  unfold clOf at h
  cases ho : o.op <;> simp only [ho, reduceCtorEq] at h
  case lookup t x k ok => exact ⟨t, x, k, ok, rfl⟩
  case call c => split at h <;> (try split at h) <;> cases h
theorem storeA_maps {t : TypeId} {x v : AV} {H H' : Heap} (h : storeA P t x v H = some H') : ∃ o e cs cs', H[o]? = some (.own e cs) ∧ H' = H.set o (.own e cs') := by
  unfold storeA at h
  split at h
  · split at h
    · split at h
      · exact ⟨_, _, _, _, ‹_›, (Option.some.inj h).symm⟩
      · cases h
    · cases h
  · cases h
theorem lookupA_put {t : TypeId} {x k : AV} {ok : Bool} {H : Heap} {o : Nat} {e : TypeId} {cs cs' : List AV} (h : H[o]? = some (.own e cs)) : lookupA P t x k ok (H.set o (.own e cs')) = lookupA P t x k ok H := by
  have key : ∀ m : Nat, ∀ es, (H.set o (.own e cs'))[m]? = some (.map es) ↔ H[m]? = some (.map es) := by
    intro m es
    by_cases hm : o = m
    · subst hm
      rw [List.getElem?_set_self (List.getElem?_eq_some_iff.1 h).1, h]
      simp
    · rw [List.getElem?_set_ne hm]
  unfold lookupA
  split
  · rename_i e' m s hu
    cases hm : H[m]? with
    | none =>
      have : (H.set o (.own e cs'))[m]? = none := by
        rw [List.getElem?_eq_none_iff] at hm ⊢
        simpa using hm
      rw [this]
    | some y =>
      cases y with
      | map es => rw [(key m es).2 hm]
      | _ =>
        split
        · rename_i es z h1 h2
          rw [key] at h1
          rw [hm] at h1
          cases h1
        · rfl
  · rfl
theorem dstep_put_look {q : List Nat} {ops : Array Oper} {oi oj : Oper} {env : Env} {H Hj Hi : Heap} {ri rj : AV} (hj : clOf q oj = .put) (hi : clOf q oi = .look) (h1 : dstep P C q ops oj env H rj Hj) (h2 : dstep P C q ops oi env Hj ri Hi) : dstep P C q ops oi env H ri H ∧ dstep P C q ops oj env H rj Hi := by
  have hh := dstep_read h2 (by rw [hi]; rfl)
  obtain ⟨rfl, -⟩ := hh
  refine ⟨?_, h1⟩
  obtain ⟨t, x, y, ho⟩ := clOf_put hj
  obtain ⟨t', x', k', ok', ho'⟩ := clOf_look hi
  rcases h2 with ⟨hw, rfl, -⟩ | ⟨hw, ⟨c, f, args, hoc, _⟩ | ⟨hcl, hs⟩⟩
  · exact .inl ⟨hw, rfl, rfl⟩
  · rw [ho'] at hoc; cases hoc
  · refine .inr ⟨hw, .inr ⟨hcl, ?_⟩⟩
    rcases h1 with ⟨_, _, rfl⟩ | ⟨_, ⟨c, f, args, hoc, _⟩ | ⟨_, hs1⟩⟩
    · exact hs
    · rw [ho] at hoc; cases hoc
    · unfold astep at hs1 hs ⊢
      rw [ho] at hs1
      rw [ho'] at hs ⊢
      simp only at hs1 hs ⊢
      obtain ⟨H2, k1, k2⟩ := Option.map_eq_some_iff.1 hs1
      simp only [Prod.mk.injEq] at k2
      obtain ⟨-, rfl⟩ := k2
      obtain ⟨o, e, cs, cs', k3, rfl⟩ := storeA_maps k1
      rw [lookupA_put k3] at hs
      obtain ⟨c, k4, k5⟩ := Option.map_eq_some_iff.1 hs
      rw [k4]
      simp only [Prod.mk.injEq] at k5
      simp [k5.1]
theorem dstep_look_put {q : List Nat} {ops : Array Oper} {oi oj : Oper} {env : Env} {H Hj Hi : Heap} {ri rj : AV} (hj : clOf q oj = .look) (hi : clOf q oi = .put) (h1 : dstep P C q ops oj env H rj Hj) (h2 : dstep P C q ops oi env Hj ri Hi) : dstep P C q ops oi env H ri Hi ∧ dstep P C q ops oj env Hi rj Hi := by
  obtain ⟨rfl, -⟩ := dstep_read h1 (by rw [hj]; rfl)
  refine ⟨h2, ?_⟩
  obtain ⟨t, x, y, ho⟩ := clOf_put hi
  obtain ⟨t', x', k', ok', ho'⟩ := clOf_look hj
  rcases h1 with ⟨hw, rfl, -⟩ | ⟨hw, ⟨c, f, args, hoc, _⟩ | ⟨hcl, hs⟩⟩
  · exact .inl ⟨hw, rfl, rfl⟩
  · rw [ho'] at hoc; cases hoc
  · refine .inr ⟨hw, .inr ⟨hcl, ?_⟩⟩
    rcases h2 with ⟨_, _, rfl⟩ | ⟨_, ⟨c, f, args, hoc, _⟩ | ⟨_, hs1⟩⟩
    · exact hs
    · rw [ho] at hoc; cases hoc
    · unfold astep at hs1 hs ⊢
      rw [ho] at hs1
      rw [ho'] at hs ⊢
      simp only at hs1 hs ⊢
      obtain ⟨H2, k1, k2⟩ := Option.map_eq_some_iff.1 hs1
      simp only [Prod.mk.injEq] at k2
      obtain ⟨-, rfl⟩ := k2
      obtain ⟨o, e, cs, cs', k3, rfl⟩ := storeA_maps k1
      rw [lookupA_put k3]
      obtain ⟨c, k4, k5⟩ := Option.map_eq_some_iff.1 hs
      rw [k4]
      simp only [Prod.mk.injEq] at k5
      simp [k5.1]
theorem dstep_congr {q : List Nat} {ops : Array Oper} {o : Oper} {env env' : Env} {H H' : Heap} {r : AV} (h : dstep P C q ops o env H r H') (hx : ∀ x ∈ o.op.operands, opA env x = opA env' x) (hw : wantA ops o env = wantA ops o env') : dstep P C q ops o env' H r H' := by
  unfold dstep at h ⊢
  rw [← hw, ← astep_congr hx]
  rcases h with h | ⟨h0, h | ⟨h1, h2⟩⟩
  · exact .inl h
  · refine .inr ⟨h0, .inl ?_⟩
    obtain ⟨c, f, args, ho, hcl, h1, h2⟩ := h
    exact ⟨c, f, args, ho, by rw [← hcl]; exact (callOf_congr fun x hxm => hx x (by rw [ho]; exact hxm)).symm, h1, h2⟩
  · exact .inr ⟨h0, .inr ⟨fun c hc => by rw [← h1 c hc]; exact (callOf_congr fun x hxm => hx x (by rw [hc]; exact hxm)).symm, h2⟩⟩
theorem dstep_poss {q : List Nat} {ops : Array Oper} {o : Oper} {env : Env} {H H' : Heap} {r : AV} (h : dstep P C q ops o env H r H') (hok : okOp C.nG o = true) (hp : Poss C env H) : Poss C (setD env o.dst r) H' := by
  obtain ⟨m, w, a, hH, hE⟩ := hp
  rcases h with ⟨hw, rfl, rfl⟩ | ⟨hw, ⟨c, f, args, ho, hcl, h1, h2⟩ | ⟨hcl, hs⟩⟩
  · exact ⟨m, w, a.put o.dst undef, hH, hE.put o.dst rfl⟩
  · obtain ⟨vals, h3, h4⟩ := callOf_run hcl ho hH hE hok h1.1
    obtain ⟨e, w', fr, ⟨rv, m', H2, r', rfl, k1, k2, rfl, rfl⟩, _⟩ := h1.2 m w vals hH h4 []
    exact ⟨m', w', a.put o.dst rv, k1.rep, (hE.more k1.pre k1.szs).put o.dst k2⟩
  · obtain ⟨nxt, m', w', h1, h2, h3⟩ := astep_run hs hH hE hok
    have hE' := hE.more h3.pre h3.szs
    rcases h2 with ⟨u, rfl, hu⟩ | ⟨rfl, rfl⟩
    · exact ⟨m', w', a.put o.dst u, h3.rep, hE'.put o.dst hu⟩
    · exact ⟨m', w', a.put o.dst undef, h3.rep, hE'.put o.dst trivial⟩

/-- Do two operations meet? -/
def meets (q : List Nat) (ops : Array Oper) (a b : Oper) : Bool :=
  !(a.apart ops b) || (match clOf q a, clOf q b with
    | .pure, _ => false
    | _, .pure => false
    | .put, .look => false
    | .look, .put => false
    | x, y => !((x.rd || x == .quiet) && (y.rd || y == .quiet) || x.rd && y == .new || x == .new && (y.rd || y == .quiet)))

theorem setD_comm {env : Env} {d d' : Option Nat} {x y : AV} (h : ∀ k, d = some k → d' ≠ some k) : setD (setD env d x) d' y = setD (setD env d' y) d x := by
  cases d with
  | none => rfl
  | some k => cases d' with
    | none => rfl
    | some k' =>
      have : k ≠ k' := fun e => h k rfl (by rw [e])
      exact List.set_comm _ _ this
theorem opA_set {env : Env} {d : Option Nat} {r : AV} {x : Operand} (h : ∀ k, d = some k → x ≠ .tmp k) : opA (setD env d r) x = opA env x := by
  cases d with
  | none => rfl
  | some k => cases x with
    | tmp t =>
      have hne : k ≠ t := fun e => h k rfl (by rw [e])
      unfold opA setD
      simp only [List.getD_eq_getElem?_getD, List.getElem?_set_ne hne]
    | _ => rfl
theorem looks_operand {ops : Array Oper} {o : Oper} {d : Option Nat} (h : ∀ k, d = some k → k ∉ o.looksAt ops) {x : Operand} (hx : x ∈ o.op.operands) : ∀ k, d = some k → x ≠ .tmp k := by
  intro k hk he
  subst he
  refine h k hk ?_
  unfold Oper.looksAt
  exact List.mem_append_left _ (List.mem_filterMap.2 ⟨_, by simpa using hx, rfl⟩)
theorem wantA_set {ops : Array Oper} {o : Oper} {env : Env} {d : Option Nat} {r : AV} (h : ∀ k, d = some k → k ∉ o.looksAt ops) : wantA ops o (setD env d r) = wantA ops o env := by
  unfold wantA
  cases hg : o.guard with
  | none => rfl
  | some g =>
    simp only
    cases hd : (ops[g.1]?).bind (·.dst) with
    | none => rfl
    | some k =>
      simp only
      have : (setD env d r).getD k .any = env.getD k .any := by
        cases d with
        | none => rfl
        | some k' =>
          have hne : k' ≠ k := by
            intro e
            refine h k' rfl ?_
            unfold Oper.looksAt
            refine List.mem_append_right _ ?_
            rw [hg]
            simp only [hd]
            simp [e]
          unfold setD
          simp only [List.getD_eq_getElem?_getD, List.getElem?_set_ne hne]
      rw [this]
theorem dstep_set {q : List Nat} {ops : Array Oper} {o : Oper} {env : Env} {H H' : Heap} {r : AV} {d : Option Nat} {x : AV} (h : ∀ k, d = some k → k ∉ o.looksAt ops) : dstep P C q ops o (setD env d x) H r H' ↔ dstep P C q ops o env H r H' :=
  ⟨fun hd => dstep_congr hd (fun y hy => opA_set (looks_operand h hy)) (wantA_set h), fun hd => dstep_congr hd (fun y hy => (opA_set (looks_operand h hy)).symm) (wantA_set h).symm⟩

/-- Two operations that do not meet may change places. -/
theorem dstep_comm {q : List Nat} {ops : Array Oper} {oi oj : Oper} (hm : meets q ops oi oj = false) {env : Env} {H Hj Hi : Heap} {ri rj : AV} (h1 : dstep P C q ops oj env H rj Hj) (h2 : dstep P C q ops oi (setD env oj.dst rj) Hj ri Hi) (hp : PtrLt oi env H.length) :
    ∃ H1, dstep P C q ops oi env H ri H1 ∧ dstep P C q ops oj (setD env oi.dst ri) H1 rj Hi ∧ setD (setD env oj.dst rj) oi.dst ri = setD (setD env oi.dst ri) oj.dst rj := by
  unfold meets at hm
  rw [Bool.or_eq_false_iff] at hm
  obtain ⟨hap, hcl⟩ := hm
  obtain ⟨a1, a2, a3⟩ := Oper.apart_spec (by simpa using hap)
  rw [dstep_set a3] at h2
  have fin : ∀ H1, dstep P C q ops oi env H ri H1 → dstep P C q ops oj env H1 rj Hi → ∃ H1, dstep P C q ops oi env H ri H1 ∧ dstep P C q ops oj (setD env oi.dst ri) H1 rj Hi ∧ setD (setD env oj.dst rj) oi.dst ri = setD (setD env oi.dst ri) oj.dst rj :=
    fun H1 k1 k2 => ⟨H1, k1, (dstep_set a1).2 k2, setD_comm fun k hk hk' => a2 k hk' hk⟩
  have same : (Hj = H ∧ Hi = Hj) → ∃ H1, dstep P C q ops oi env H ri H1 ∧ dstep P C q ops oj (setD env oi.dst ri) H1 rj Hi ∧ setD (setD env oj.dst rj) oi.dst ri = setD (setD env oi.dst ri) oj.dst rj := by
    rintro ⟨rfl, rfl⟩
    exact fin _ h2 h1
  by_cases p1 : clOf q oi = .pure
  · obtain ⟨rfl, k⟩ := dstep_pure h2 p1
    exact fin H (k H) h1
  by_cases p2 : clOf q oj = .pure
  · obtain ⟨rfl, k⟩ := dstep_pure h1 p2
    exact fin Hi h2 (k Hi)
  by_cases p3 : clOf q oi = .put ∧ clOf q oj = .look
  · obtain ⟨k1, k2⟩ := dstep_look_put p3.2 p3.1 h1 h2
    exact fin Hi k1 k2
  by_cases p4 : clOf q oi = .look ∧ clOf q oj = .put
  · obtain ⟨k1, k2⟩ := dstep_put_look p4.2 p4.1 h1 h2
    exact fin H k1 k2
  have hcl' : ((clOf q oi).rd || clOf q oi == .quiet) && ((clOf q oj).rd || clOf q oj == .quiet) || (clOf q oi).rd && clOf q oj == .new || clOf q oi == .new && ((clOf q oj).rd || clOf q oj == .quiet) = true := by
    revert hcl p1 p2 p3 p4
    generalize clOf q oi = x
    generalize clOf q oj = y
    cases x <;> cases y <;> simp [Cl.rd]
  have rdq : ∀ {o : Oper} {e : Env} {A A' : Heap} {r : AV}, ((clOf q o).rd || clOf q o == .quiet) = true → dstep P C q ops o e A r A' → A' = A ∧ ∀ G, dstep P C q ops o e (A ++ G) r (A ++ G) := by
    intro o e A A' r hq hd
    rcases Bool.or_eq_true_iff.1 hq with hq | hq
    · exact dstep_read hd hq
    · exact dstep_quiet hd (by simpa using hq)
  have hcl2 : (((clOf q oi).rd || clOf q oi == .quiet) = true ∧ ((clOf q oj).rd || clOf q oj == .quiet) = true) ∨ ((clOf q oi).rd = true ∧ clOf q oj = .new) ∨ (clOf q oi = .new ∧ ((clOf q oj).rd || clOf q oj == .quiet) = true) := by
    revert hcl'
    generalize clOf q oi = x
    generalize clOf q oj = y
    cases x <;> cases y <;> simp [Cl.rd]
  rcases hcl2 with ⟨c1, c2⟩ | ⟨c1, c2⟩ | ⟨c1, c2⟩
  · exact same ⟨(rdq c2 h1).1, (rdq c1 h2).1⟩
  · obtain ⟨G, rfl⟩ := dstep_new h1 c2
    obtain ⟨rfl, k⟩ := dstep_back h2 c1 hp
    exact fin H k h1
  · obtain ⟨rfl, k⟩ := rdq c2 h1
    obtain ⟨G, rfl⟩ := dstep_new h2 c1
    exact fin _ h2 (k G)

theorem dstep_det {q : List Nat} {ops : Array Oper} {o : Oper} {env : Env} {H H1 H2 : Heap} {r1 r2 : AV} (hc : clOf q o = .pure ∨ (clOf q o).rd = true) (h1 : dstep P C q ops o env H r1 H1) (h2 : dstep P C q ops o env H r2 H2) : r1 = r2 := by
  have hn : ∀ c f args, o.op = .call c → callOf env c = some (f, args) → False := fun c f args ho hcl => by
    obtain ⟨x, hx, _⟩ := callOf_callee hcl
    rcases clOf_value (q := q) ho hx with e | e <;> rw [e] at hc <;> simp [Cl.rd] at hc
  rcases h1 with ⟨hw, rfl, _⟩ | ⟨hw, ⟨c, f, args, ho, hcl, _⟩ | ⟨_, hs⟩⟩
  · rcases h2 with ⟨_, rfl, _⟩ | ⟨hw2, _⟩
    · rfl
    · rw [hw] at hw2; cases hw2
  · exact (hn c f args ho hcl).elim
  · rcases h2 with ⟨hw2, _⟩ | ⟨_, ⟨c, f, args, ho, hcl, _⟩ | ⟨_, hs2⟩⟩
    · rw [hw] at hw2; cases hw2
    · exact (hn c f args ho hcl).elim
    · rw [hs] at hs2
      simp only [Option.some.injEq, Prod.mk.injEq] at hs2
      exact hs2.1
/-- Two operations that do not meet may change places, whatever they answer. -/
theorem nstep_comm {q : List Nat} {ops : Array Oper} {oi oj : Oper} (hm : meets q ops oi oj = false) {env : Env} {H : Heap} {Y : Env → Heap → Prop} (hp : PtrLt oi env H.length)
    (h : nstep P C q ops oj env H fun rj Hj => nstep P C q ops oi (setD env oj.dst rj) Hj fun ri Hi => Y (setD (setD env oj.dst rj) oi.dst ri) Hi) :
    nstep P C q ops oi env H fun ri H1 => nstep P C q ops oj (setD env oi.dst ri) H1 fun rj H2 => Y (setD (setD env oi.dst ri) oj.dst rj) H2 := by
  have hm0 := hm
  unfold meets at hm
  rw [Bool.or_eq_false_iff] at hm
  obtain ⟨hap, hcl⟩ := hm
  obtain ⟨a1, a2, a3⟩ := Oper.apart_spec (by simpa using hap)
  have hcomm : ∀ rj ri, setD (setD env oj.dst rj) oi.dst ri = setD (setD env oi.dst ri) oj.dst rj := fun rj ri => setD_comm fun k hk hk' => a2 k hk' hk
  have callcl : ∀ {o : Oper} {e : Env} {c : Call} {f : FuncId} {args : List AV}, o.op = .call c → callOf e c = some (f, args) → q.contains f = false → clOf q o = .new := by
    intro o e c f args ho hc hf
    obtain ⟨x, hx, hxf⟩ := callOf_callee hc
    unfold clOf
    simp only [ho, hx]
    cases x with
    | func g =>
      obtain rfl := hxf _ rfl
      simp only
      rw [if_neg (by rw [hf]; simp)]
    | _ => rfl
  have wcg : ∀ {o o' : Oper} {r : AV}, (∀ k, o'.dst = some k → k ∉ o.looksAt ops) → wantA ops o (setD env o'.dst r) = wantA ops o env := fun hh => wantA_set hh
  have ccg : ∀ {o o' : Oper} {r : AV} {c : Call}, o.op = .call c → (∀ k, o'.dst = some k → k ∉ o.looksAt ops) → callOf (setD env o'.dst r) c = callOf env c := fun ho hh =>
    callOf_congr fun x hx => opA_set (looks_operand hh (by rw [ho]; exact hx))
  rcases h with ⟨rj, Hj, h1, h2⟩ | ⟨hw, c, f, args, ho, hc, hf, R, hR, hgrow, ⟨r0, H0, hr0⟩, hX⟩
  · rcases h2 with ⟨ri, Hi, h2, hY⟩ | ⟨hw, c, f, args, ho, hc, hf, R, hR, hgrow, hne, hX⟩
    · obtain ⟨H1, k1, k2, k3⟩ := dstep_comm hm0 h1 h2 hp
      exact .inl ⟨ri, H1, k1, .inl ⟨rj, Hi, k2, by show Y _ _; rw [← k3]; exact hY⟩⟩
    · -- oi is a call that may answer in several ways
      have ci := callcl ho hc hf
      rw [ci] at hcl
      have hj : clOf q oj = .pure ∨ ((clOf q oj).rd || clOf q oj == .quiet) = true := by
        revert hcl
        generalize clOf q oj = y
        cases y <;> simp [Cl.rd]
      have hall : Hj = H ∧ ∀ G, dstep P C q ops oj env (H ++ G) rj (H ++ G) := by
        rcases hj with e | e
        · obtain ⟨e1, e2⟩ := dstep_pure h1 e
          exact ⟨e1, fun G => e2 _⟩
        · rcases Bool.or_eq_true_iff.1 e with e | e
          · exact dstep_read h1 e
          · exact dstep_quiet h1 (by simpa using e)
      obtain ⟨rfl, hall⟩ := hall
      refine .inr ⟨by rw [← wcg a3 (r := rj)]; exact hw, c, f, args, ho, by rw [← ccg ho a3 (r := rj)]; exact hc, hf, R, hR, hgrow, hne, fun r H' hr => ?_⟩
      obtain ⟨G, rfl⟩ := hgrow r H' hr
      exact .inl ⟨rj, _, (dstep_set a1).2 (hall G), by show Y _ _; rw [← hcomm]; exact hX r _ hr⟩
  · -- oj is a call that may answer in several ways
    have cj := callcl ho hc hf
    rw [cj] at hcl
    have hi : clOf q oi = .pure ∨ (clOf q oi).rd = true := by
      revert hcl
      generalize clOf q oi = y
      cases y <;> simp [Cl.rd]
    have hin : clOf q oi ≠ .new := by rcases hi with e | e <;> intro e2 <;> rw [e2] at e <;> simp [Cl.rd] at e
    have base : ∀ {rj : AV} {G : Heap} {ri : AV} {Hi : Heap}, dstep P C q ops oi (setD env oj.dst rj) (H ++ G) ri Hi → Hi = H ++ G ∧ dstep P C q ops oi env H ri H := by
      intro rj G ri Hi hd
      rw [dstep_set a3] at hd
      rcases hi with e | e
      · obtain ⟨e1, e2⟩ := dstep_pure hd e
        exact ⟨e1, e2 H⟩
      · exact dstep_back hd e hp
    have det : ∀ {rj : AV} {H' : Heap}, (nstep P C q ops oi (setD env oj.dst rj) H' fun ri Hi => Y (setD (setD env oj.dst rj) oi.dst ri) Hi) → ∃ ri Hi, dstep P C q ops oi (setD env oj.dst rj) H' ri Hi ∧ Y (setD (setD env oj.dst rj) oi.dst ri) Hi := by
      intro rj H' hn
      rcases hn with hn | ⟨_, c2, f2, args2, ho2, hc2, hf2, _⟩
      · exact hn
      · exact absurd (callcl ho2 hc2 hf2) hin
    obtain ⟨G0, rfl⟩ := hgrow _ _ hr0
    obtain ⟨ri, Hi, hd0, _⟩ := det (hX _ _ hr0)
    obtain ⟨_, hdi⟩ := base hd0
    refine .inl ⟨ri, H, hdi, .inr ⟨by rw [wcg a1]; exact hw, c, f, args, ho, by rw [ccg ho a1]; exact hc, hf, R, hR, hgrow, ⟨r0, _, hr0⟩, fun rj H' hr => ?_⟩⟩
    obtain ⟨G, rfl⟩ := hgrow _ _ hr
    obtain ⟨ri2, Hi2, hd2, hY⟩ := det (hX _ _ hr)
    obtain ⟨e1, hdi2⟩ := base hd2
    obtain rfl := dstep_det hi hdi hdi2
    subst e1
    show Y _ _
    rw [← hcomm]
    exact hY

theorem buildA_len {t : TypeId} {l : List (Nat × List AV)} {H H' : Heap} {r : AV} (h : buildA P t l H = some (r, H')) : H.length ≤ H'.length := by
  obtain ⟨rfl, _⟩ := same_build t l h
  exact Nat.le_refl _
theorem appendA_len {t : TypeId} {x y : AV} {H H' : Heap} {r : AV} (h : appendA P t x y H = some (r, H')) : H.length ≤ H'.length := by
  unfold appendA at h
  repeat' split at h
  all_goals first
    | (cases h; done)
    | (simp only [Option.some.injEq, Prod.mk.injEq] at h; rw [← h.2]; simp only [List.length_append, List.length_set, List.length_cons, List.length_nil]; omega)
    | (simp only [Option.some.injEq, Prod.mk.injEq] at h; rw [← h.2]; exact Nat.le_refl _)
/-- The list of objects never shrinks. -/
theorem astep_len {o : Oper} {env : Env} {H H' : Heap} {r : AV} (h : astep P o env H = some (r, H')) : H.length ≤ H'.length := by
  unfold astep at h
  cases ho : o.op <;> simp only [ho, reduceCtorEq] at h
  case move x => simp only [Option.some.injEq, Prod.mk.injEq] at h; rw [h.2]; exact Nat.le_refl _
  case assign x => simp only [Option.some.injEq, Prod.mk.injEq] at h; rw [h.2]; exact Nat.le_refl _
  case pick c x y =>
    split at h
    · simp only [Option.some.injEq, Prod.mk.injEq] at h; rw [h.2]; exact Nat.le_refl _
    · cases h
  case alloc e =>
    repeat' split at h
    all_goals first
      | (cases h; done)
      | (simp only [Option.some.injEq, Prod.mk.injEq] at h; rw [← h.2]; simp)
  case box e x =>
    obtain ⟨c, h1, h2⟩ := Option.map_eq_some_iff.1 h
    simp only [Prod.mk.injEq] at h2
    rw [← h2.2]; simp
  case build t ps =>
    obtain ⟨l, h1, h2⟩ := Option.bind_eq_some_iff.1 h
    exact buildA_len h2
  case buildSlice t n ps =>
    obtain ⟨l, h1, h2⟩ := Option.bind_eq_some_iff.1 h
    exact (buildSliceA_new h2).length_le
  case load t x => rw [loadA_same h]; exact Nat.le_refl _
  case store t x y =>
    obtain ⟨H2, k1, k2⟩ := Option.map_eq_some_iff.1 h
    simp only [Prod.mk.injEq] at k2
    obtain ⟨o', e, cs, cs', _, k3⟩ := storeA_maps k1
    rw [← k2.2, k3, List.length_set]
    exact Nat.le_refl _
  case nilCheck x =>
    split at h
    · simp only [Option.some.injEq, Prod.mk.injEq] at h; rw [h.2]; exact Nat.le_refl _
    · simp only [Option.some.injEq, Prod.mk.injEq] at h; rw [h.2]; exact Nat.le_refl _
    · cases h
  case binOp => rw [(same_map _ h).1]; exact Nat.le_refl _
  case unOp => rw [bind_map_val] at h; rw [(same_bind _ _ h).1]; exact Nat.le_refl _
  case convert => rw [bind_map_val] at h; rw [(same_bind _ _ h).1]; exact Nat.le_refl _
  case slice t x lo hi mx =>
    cases mx with
    | none => rw [(same_slice _ _ _ _ h).1]; exact Nat.le_refl _
    | some _ => cases h
  case fieldAddr => rw [(same_field _ _ _ h).1]; exact Nat.le_refl _
  case indexAddr => rw [(same_index _ _ _ h).1]; exact Nat.le_refl _
  case index => rw [(same_map _ h).1]; exact Nat.le_refl _
  case lookup => rw [(same_map _ h).1]; exact Nat.le_refl _
  case insert t x k v =>
    obtain ⟨H2, k1, k2⟩ := Option.map_eq_some_iff.1 h
    simp only [Prod.mk.injEq] at k2
    rw [← k2.2]
    unfold insertA at k1
    repeat' split at k1
    all_goals first
      | (cases k1; done)
      | (simp only [Option.some.injEq] at k1; rw [← k1, List.length_set]; exact Nat.le_refl _)
  case mapUpdate t x k v =>
    obtain ⟨H2, k1, k2⟩ := Option.map_eq_some_iff.1 h
    simp only [Prod.mk.injEq] at k2
    rw [← k2.2]
    unfold insertA at k1
    repeat' split at k1
    all_goals first
      | (cases k1; done)
      | (simp only [Option.some.injEq] at k1; rw [← k1, List.length_set]; exact Nat.le_refl _)
  case makeMap t x =>
    cases x with
    | none => simp only [Option.some.injEq, Prod.mk.injEq] at h; rw [← h.2]; simp
    | some _ => cases h
  case makeSlice t x y =>
    unfold makeSliceA at h
    repeat' split at h
    all_goals first
      | (cases h; done)
      | (simp only [Option.some.injEq, Prod.mk.injEq] at h; rw [← h.2]; simp)
  case extract => rw [(same_map _ h).1]; exact Nat.le_refl _
  case makeInterface =>
    split at h
    · simp only [Option.some.injEq, Prod.mk.injEq] at h; rw [h.2]; exact Nat.le_refl _
    · cases h
  case makeFunc => simp only [Option.some.injEq, Prod.mk.injEq] at h; rw [h.2]; exact Nat.le_refl _
  case call c =>
    split at h
    · rename_i b hb
      by_cases hba : b = .append
      · subst hba
        unfold builtinA at h
        split at h
        · cases ‹Builtin.append = Builtin.len›
        · split at h
          · exact appendA_len h
          · cases h
        · cases ‹Builtin.append = Builtin.max›
        · cases ‹Builtin.append = Builtin.min›
        · cases h
      · rw [(same_builtin _ _ _ _ hba h).1]; exact Nat.le_refl _
    · cases h
theorem dstep_len {q : List Nat} {ops : Array Oper} {o : Oper} {env : Env} {H H' : Heap} {r : AV} (h : dstep P C q ops o env H r H') : H.length ≤ H'.length := by
  rcases h with ⟨_, _, rfl⟩ | ⟨_, ⟨_, _, _, _, _, _, h, _⟩ | ⟨_, hs⟩⟩
  · exact Nat.le_refl _
  · exact h.length_le
  · exact astep_len hs
theorem nstep_len {q : List Nat} {ops : Array Oper} {o : Oper} {env : Env} {H : Heap} {X : AV → Heap → Prop} (h : nstep P C q ops o env H X) : nstep P C q ops o env H fun r H' => H.length ≤ H'.length ∧ X r H' := by
  rcases h with ⟨r, H', h1, h2⟩ | ⟨h0, c, f, args, h1, h2, h3, R, h4, h5, h6, h7⟩
  · exact .inl ⟨r, H', h1, dstep_len h1, h2⟩
  · exact .inr ⟨h0, c, f, args, h1, h2, h3, R, h4, h5, h6, fun r H' hr => ⟨(h5 r H' hr).length_le, h7 r H' hr⟩⟩
/-- An operation goes ahead of those that it does not meet. -/
theorem aops_ahead {q : List Nat} {ops : Array Oper} {oi : Oper} {B : List Oper} {K : Env → Heap → Prop} : ∀ {A : List Oper} {env : Env} {H : Heap}, (∀ o ∈ A, meets q ops oi o = false) → PtrLt oi env H.length → aops P C (some q) ops (A ++ oi :: B) env H K →
    nstep P C q ops oi env H fun r H' => aops P C (some q) ops (A ++ B) (setD env oi.dst r) H' K
  | [], env, H, _, hp, h => aops_step h
  | oj :: A, env, H, hm, hp, h => by
    have h1 := nstep_len (aops_step (rest := A ++ oi :: B) h)
    have hmj := hm _ (List.mem_cons_self ..)
    have ha3 : ∀ k, oj.dst = some k → k ∉ oi.looksAt ops := by
      have hmj' := hmj
      unfold meets at hmj'
      rw [Bool.or_eq_false_iff] at hmj'
      exact (Oper.apart_spec (by simpa using hmj'.1)).2.2
    have h2 : nstep P C q ops oj env H fun rj Hj => nstep P C q ops oi (setD env oj.dst rj) Hj fun ri Hi => aops P C (some q) ops (A ++ B) (setD (setD env oj.dst rj) oi.dst ri) Hi K := by
      refine nstep_mono (fun rj Hj hk => ?_) h1
      refine aops_ahead (fun o ho => hm o (List.mem_cons_of_mem _ ho)) (fun x hx => ?_) hk.2
      rw [opA_set (looks_operand ha3 hx)]
      have := hp x hx
      exact ⟨fun o' off e => Nat.lt_of_lt_of_le (this.1 o' off e) hk.1, fun o' e => Nat.lt_of_lt_of_le (this.2 o' e) hk.1⟩
    have h3 := nstep_comm (Y := fun e h => aops P C (some q) ops (A ++ B) e h K) hmj hp h2
    exact nstep_mono (fun r H' hk => aops_cons (rest := A ++ B) hk) h3

/-- Does an edge's way lead from i to j? -/
def reach (ops : Array Oper) : Nat → Nat → Nat → Bool
  | 0, _, _ => false
  | k + 1, i, j => match ops[i]? with
    | none => false
    | some o => (o.after.toList.any fun e => Region.binds .any e && e.on == j) || (o.after.toList.any fun e => Region.binds .any e && decide (j < e.on) && reach ops k e.on j)
/-- Each two operations that meet are ordered, as they stand. -/
def okDraw (q : List Nat) (ops : Array Oper) : Bool :=
  (List.range ops.size).all fun i => match ops[i]? with
    | none => true
    | some oi => (oi.after.toList.all fun e => !Region.binds .any e || decide (e.on < i)) && (List.range i).all fun j => match ops[j]? with
      | none => true
      | some oj => !meets q ops oi oj || reach ops ops.size i j

def Dn (ops : Array Oper) (listed : Array Bool) : Prop := ∀ (i : Nat) o, listed.getD i false = true → ops[i]? = some o → ∀ e ∈ o.after, Region.binds .any e = true → listed.getD e.on false = true
theorem reach_listed {ops : Array Oper} {listed : Array Bool} (hd : Dn ops listed) : ∀ (k i j : Nat) o, reach ops k i j = true → ops[i]? = some o → (∀ e ∈ o.after, Region.binds .any e = true → listed.getD e.on false = true) → listed.getD j false = true
  | 0, _, _, _, h, _, _ => by simp [reach] at h
  | k + 1, i, j, o, h, ho, hl => by
    unfold reach at h
    rw [ho] at h
    simp only [Bool.or_eq_true, List.any_eq_true, Bool.and_eq_true, decide_eq_true_eq, beq_iff_eq] at h
    rcases h with ⟨e, he, h1, h2⟩ | ⟨e, he, ⟨h1, h2⟩, h3⟩
    · rw [← h2]; exact hl e (by simpa using he) h1
    · have hle := hl e (by simpa using he) h1
      cases hoe : ops[e.on]? with
      | none =>
        cases k with
        | zero => simp [reach] at h3
        | succ k => unfold reach at h3; rw [hoe] at h3; cases h3
      | some oe => exact reach_listed hd k e.on j oe h3 hoe (hd _ _ hle hoe)

theorem okDraw_spec {q : List Nat} {ops : Array Oper} (h : okDraw q ops = true) {i : Nat} {oi : Oper} (hi : ops[i]? = some oi) : (∀ e ∈ oi.after, Region.binds .any e = true → e.on < i) ∧ ∀ (j : Nat) oj, j < i → ops[j]? = some oj → meets q ops oi oj = true → reach ops ops.size i j = true := by
  have hlt : i < ops.size := (Array.getElem?_eq_some_iff.1 hi).1
  unfold okDraw at h
  have h1 := List.all_eq_true.1 h i (List.mem_range.2 hlt)
  simp only [hi, Bool.and_eq_true, List.all_eq_true, Bool.or_eq_true, Bool.not_eq_true', decide_eq_true_eq, List.mem_range] at h1
  obtain ⟨h2, h3⟩ := h1
  refine ⟨fun e he hb => ?_, fun j oj hj hoj hm => ?_⟩
  · rcases h2 e (by simpa using he) with h4 | h4
    · rw [hb] at h4; cases h4
    · exact h4
  · have h4 := h3 j hj
    simp only [hoj, Bool.or_eq_true, Bool.not_eq_true'] at h4
    rcases h4 with h4 | h4
    · rw [hm] at h4; cases h4
    · exact h4

/-- What is not yet listed, as it stands. -/
def remIdx (n : Nat) (listed : Array Bool) : List Nat := (List.range n).filter fun i => !listed.getD i true
def rem (ops : Array Oper) (listed : Array Bool) : List Oper := (remIdx ops.size listed).filterMap (ops[·]?)
theorem range_split {n i : Nat} (h : i < n) : List.range n = List.range i ++ i :: List.range' (i + 1) (n - i - 1) := by
  rw [List.range_eq_range', List.range_eq_range']
  have h1 : List.range' 0 n = List.range' 0 i ++ List.range' (0 + 1 * i) (n - i) := by rw [List.range'_append]; congr 1; omega
  rw [h1]
  congr 1
  have h2 : n - i = (n - i - 1) + 1 := by omega
  rw [h2, List.range'_succ]
  simp
theorem remIdx_split {n i : Nat} {listed : Array Bool} (h : i < n) (hl : listed.getD i true = false) (hs : listed.size = n) : ∃ A B, remIdx n listed = A ++ i :: B ∧ remIdx n (listed.setIfInBounds i true) = A ++ B ∧ ∀ j ∈ A, j < i ∧ listed.getD j true = false := by
  refine ⟨(List.range i).filter fun j => !listed.getD j true, (List.range' (i + 1) (n - i - 1)).filter fun j => !listed.getD j true, ?_, ?_, ?_⟩
  · unfold remIdx
    rw [range_split h, List.filter_append, List.filter_cons, hl]
    rfl
  · unfold remIdx
    rw [range_split h, List.filter_append, List.filter_cons]
    have hi : (listed.setIfInBounds i true).getD i true = true := by simp [hs, h]
    rw [hi]
    simp only [Bool.not_true, Bool.false_eq_true, if_false]
    congr 1
    · refine List.filter_congr fun j hj => ?_
      rw [getD_set_ne true]
      have := List.mem_range.1 hj
      omega
    · refine List.filter_congr fun j hj => ?_
      rw [getD_set_ne true]
      have := (List.mem_range'_1.1 hj).1
      omega
  · intro j hj
    obtain ⟨h1, h2⟩ := List.mem_filter.1 hj
    exact ⟨List.mem_range.1 h1, by simpa using h2⟩
theorem rem_split {ops : Array Oper} {i : Nat} {oi : Oper} {listed : Array Bool} (hi : ops[i]? = some oi) (hl : listed.getD i true = false) (hs : listed.size = ops.size) : ∃ A B, rem ops listed = A ++ oi :: B ∧ rem ops (listed.setIfInBounds i true) = A ++ B ∧ ∀ oj ∈ A, ∃ j, j < i ∧ listed.getD j true = false ∧ ops[j]? = some oj := by
  obtain ⟨A, B, h1, h2, h3⟩ := remIdx_split (Array.getElem?_eq_some_iff.1 hi).1 hl hs
  refine ⟨A.filterMap (ops[·]?), B.filterMap (ops[·]?), ?_, ?_, ?_⟩
  · unfold rem; rw [h1, List.filterMap_append, List.filterMap_cons, hi]
  · unfold rem; rw [h2, List.filterMap_append]
  · intro oj hj
    obtain ⟨j, k1, k2⟩ := List.mem_filterMap.1 hj
    exact ⟨j, (h3 j k1).1, (h3 j k1).2, k2⟩
theorem rem_mem {ops : Array Oper} {listed : Array Bool} {o : Oper} (h : o ∈ rem ops listed) : ∃ j : Nat, ops[j]? = some o := by
  obtain ⟨j, _, h2⟩ := List.mem_filterMap.1 h
  exact ⟨j, h2⟩

/-- What is left is ready where it is least. -/
theorem ready_least {q : List Nat} {ops : Array Oper} {listed : Array Bool} (hok : okDraw q ops = true) (hs : listed.size = ops.size) (hr : Region.ready .any ops listed = []) : remIdx ops.size listed = [] := by
  have key : ∀ i, i < ops.size → listed.getD i true = true := by
    intro i
    induction i using Nat.strongRecOn with
    | _ i ih =>
      intro hi
      cases hl : listed.getD i true with
      | true => rfl
      | false =>
        exfalso
        have hmem : i ∈ Region.ready .any ops listed := by
          rw [mem_ready]
          have ho : ops[i]? = some ops[i] := Array.getElem?_eq_getElem hi
          refine ⟨hl, _, ho, fun e he hb => ?_⟩
          have hlt := (okDraw_spec hok ho).1 e he hb
          have h1 := ih e.on hlt (by omega)
          have hb2 : e.on < listed.size := by omega
          simpa [Array.getD, hb2] using h1
        rw [hr] at hmem
        cases hmem
  unfold remIdx
  rw [List.filter_eq_nil_iff]
  intro i hi
  rw [key i (List.mem_range.1 hi)]
  simp

theorem op_machine {q : List Nat} {ops : Array Oper} {o : Oper} {env : Env} {H H' : Heap} {r : AV} (h : dstep P C q ops o env H r H') (hok : okOp C.nG o = true) {m : Places} {w : World} {a : Act} (hH : RepH C m w H) (hE : RepE m w env a) {i : Nat} (hi : ops[i]? = some o) {K : Act → World → Prop} {Q : Exit → Act → World → Prop}
    (hK : ∀ m' w' a', Fwd C m w m' w' H' → RepE m' w' (setD env o.dst r) a' → K a' w') : wpOp P ops Q i K a w := by
  unfold wpOp
  rw [hi]
  simp only
  rcases h with ⟨hw, rfl, rfl⟩ | ⟨hw, ⟨c, f, args, ho, hcl, h1, h2⟩ | ⟨hcl, hs⟩⟩
  · rw [if_neg (by rw [wantA_wanted hw hE]; simp)]
    exact hK m w _ ⟨List.prefix_refl m, Szs.refl w, hH⟩ (hE.put o.dst rfl)
  · rw [if_pos (wantA_wanted hw hE)]
    left
    obtain ⟨vals, h3, h4⟩ := callOf_run hcl ho hH hE hok h1.1
    unfold Oper.wp
    rw [h3, Oper.upon_enter]
    refine (h1.2 m w vals hH h4).mono ?_
    rintro e w' ⟨rv, m', H2, r', rfl, k1, k2, rfl, rfl⟩
    exact hK m' w' _ k1 ((hE.more k1.pre k1.szs).put o.dst k2)
  · rw [if_pos (wantA_wanted hw hE)]
    left
    obtain ⟨nxt, m', w', h1, h2, h3⟩ := astep_run hs hH hE hok
    unfold Oper.wp
    rw [h1]
    have hE' := hE.more h3.pre h3.szs
    rcases h2 with ⟨u, rfl, hu⟩ | ⟨rfl, rfl⟩
    · exact hK m' w' _ h3 (hE'.put o.dst hu)
    · exact hK m' w' _ h3 (hE'.put o.dst (v := undef) trivial)

theorem op_machineN {q : List Nat} {ops : Array Oper} {o : Oper} {env : Env} {H : Heap} {X : AV → Heap → Prop} (h : nstep P C q ops o env H X) (hok : okOp C.nG o = true) {m : Places} {w : World} {a : Act} (hH : RepH C m w H) (hE : RepE m w env a) {i : Nat} (hi : ops[i]? = some o) {K : Act → World → Prop} {Q : Exit → Act → World → Prop}
    (hK : ∀ m' w' a' r H', Fwd C m w m' w' H' → RepE m' w' (setD env o.dst r) a' → X r H' → K a' w') : wpOp P ops Q i K a w := by
  rcases h with ⟨r, H', h1, h2⟩ | ⟨hw, c, f, args, ho, hcl, hf, R, h1, _, _, h2⟩
  · exact op_machine h1 hok hH hE hi fun m' w' a' e1 e2 => hK m' w' a' r H' e1 e2 h2
  · unfold wpOp
    rw [hi]
    simp only
    rw [if_pos (wantA_wanted hw hE)]
    left
    obtain ⟨vals, h3, h4⟩ := callOf_run hcl ho hH hE hok h1.1
    unfold Oper.wp
    rw [h3, Oper.upon_enter]
    refine (h1.2 m w vals hH h4).mono ?_
    rintro e w' ⟨rv, m', H2, r', rfl, k1, k2, hr⟩
    exact hK m' w' _ r' H2 k1 ((hE.more k1.pre k1.szs).put o.dst k2) (h2 _ _ hr)

theorem any_sound {q : List Nat} {ops : Array Oper} (hok : okDraw q ops = true) (hops : ops.toList.all (okOp C.nG) = true) {K : Env → Heap → Prop} {Q : Exit → Act → World → Prop} {m0 : Places} {w0 : World} (hQ : ∀ m' w' a' env' H', Fwd C m0 w0 m' w' H' → RepE m' w' env' a' → K env' H' → Q .normal a' w') :
    ∀ (fuel : Nat) (listed : Array Bool) (m : Places) (w : World) (a : Act) (env : Env) (H : Heap), listed.size = ops.size → (remIdx ops.size listed).length ≤ fuel → Dn ops listed → Fwd C m0 w0 m w H → RepE m w env a → aops P C (some q) ops (rem ops listed) env H K → wpAny P .any ops Q fuel listed a w
  | 0, listed, m, w, a, env, H, hs, hf, hd, hH, hE, h => by
    have h0 : remIdx ops.size listed = [] := List.eq_nil_of_length_eq_zero (by omega)
    unfold wpAny
    unfold rem at h
    rw [h0] at h
    refine ⟨?_, hQ m w a env H hH hE h⟩
    refine List.eq_nil_iff_forall_not_mem.2 fun i hi => ?_
    obtain ⟨k1, o, k2, _⟩ := mem_ready.1 hi
    have : i ∈ remIdx ops.size listed := List.mem_filter.2 ⟨List.mem_range.2 (Array.getElem?_eq_some_iff.1 k2).1, by rw [k1]; rfl⟩
    rw [h0] at this
    cases this
  | fuel + 1, listed, m, w, a, env, H, hs, hf, hd, hH, hE, h => by
    unfold wpAny
    refine ⟨fun hr => ?_, fun i hi => ?_⟩
    · unfold rem at h
      rw [ready_least hok hs hr] at h
      exact hQ m w a env H hH hE h
    · obtain ⟨k1, oi, k2, k3⟩ := mem_ready.1 hi
      obtain ⟨A, B, q1, q2, q3⟩ := rem_split k2 k1 hs
      have hoks : ∀ o : Oper, (∃ j : Nat, ops[j]? = some o) → okOp C.nG o = true := fun o ⟨j, hj⟩ => List.all_eq_true.1 hops o (by rw [Array.mem_toList_iff]; exact Array.mem_of_getElem? hj)
      rw [q1] at h
      have h1 := aops_ahead (fun oj hoj => by
        obtain ⟨j, j1, j2, j3⟩ := q3 oj hoj
        cases hm : meets q ops oi oj with
        | false => rfl
        | true =>
          exfalso
          have h5 := reach_listed hd _ _ _ _ ((okDraw_spec hok k2).2 j oj j1 j3 hm) k2 k3
          have hjs : j < listed.size := by rw [hs]; exact (Array.getElem?_eq_some_iff.1 j3).1
          simp [Array.getD, hjs] at h5 j2
          rw [h5] at j2
          cases j2) (Poss.ptr ⟨m, w, a, hH.rep, hE⟩ (hoks oi ⟨i, k2⟩)) h
      refine op_machineN h1 (hoks oi ⟨i, k2⟩) hH.rep hE k2 fun m' w' a' r H' e1 e2 h2 => any_sound hok hops hQ fuel _ m' w' a' _ H' (by simp [hs]) ?_ ?_ (hH.trans e1) e2 (by rw [q2]; exact h2)
      · obtain ⟨A', B', p1, p2, _⟩ := remIdx_split (Array.getElem?_eq_some_iff.1 k2).1 k1 hs
        rw [p2]; rw [p1] at hf
        simp only [List.length_append, List.length_cons] at hf ⊢
        omega
      · intro j oj hj hoj e he hb
        by_cases hij : i = j
        · subst hij
          rw [k2] at hoj
          cases hoj
          exact getD_set_true (k3 e he hb)
        · rw [getD_set_ne false hij] at hj
          exact getD_set_true (hd j oj hj hoj e he hb)

theorem remIdx_start (n : Nat) : remIdx n (Array.replicate n false) = List.range n := by
  unfold remIdx
  rw [List.filter_eq_self]
  intro i hi
  have := List.mem_range.1 hi
  simp [Array.getD, this]
theorem filterMap_range {α : Type} (l : List α) : ∀ n, (List.range n).filterMap (l[·]?) = l.take n
  | 0 => by simp
  | n + 1 => by
    rw [List.range_succ, List.filterMap_append, filterMap_range l n, List.take_add_one]
    cases h : l[n]? <;> simp [h]
theorem rem_start (ops : Array Oper) : rem ops (Array.replicate ops.size false) = ops.toList := by
  unfold rem
  rw [remIdx_start]
  have h := filterMap_range ops.toList ops.size
  simp only [Array.getElem?_toList] at h
  rw [h, ← Array.length_toList, List.take_length]

/-- THE RULE FOR A REGION THAT DRAWS ITS ORDER. -/
theorem A_draw {id : Nat} {q : List Nat} {ops : Array Oper} {env : Env} {H : Heap} {Q : Exit → Env → Heap → Prop} (hm : P.follows .mixedOrders = true) (hok : okDraw q ops = true) (hops : ops.toList.all (okOp C.nG) = true) (h : aops P C (some q) ops ops.toList env H fun e h => Q .normal e h) : AWp P C (.region id ops true) env H Q := by
  intro m w a hH hE
  refine wp_region_any hm ?_
  have hH1 : RepH C m { w with drawn := w.drawn + 1 } H := hH.drewN 1
  refine any_sound hok hops (fun m' w' a' env' H' k1 k2 k3 => ⟨m', env', H', ⟨k1.pre, (szs_drewN w 1).trans k1.szs, k1.rep⟩, k2, k3⟩) ops.size _ m _ a env H (by simp) (by rw [remIdx_start]; simp) (fun i o hi => by
    exfalso
    rcases Nat.lt_or_ge i ops.size with hlt | hlt <;> simp [Array.getD, hlt] at hi) ⟨List.prefix_refl m, Szs.refl _, hH1⟩ (hE.more (List.prefix_refl m) (szs_drewN w 1)) (by rw [rem_start]; exact h)
end Go.Proofs.YtlfpjdcogkcjlaaGreatDoor.AL
/-
  Code: the logic's rules.
-/
namespace Go.Proofs.YtlfpjdcogkcjlaaGreatDoor.AL
open Go.RowKit
set_option linter.unusedVariables false
set_option linter.unusedSimpArgs false
variable {P : Program} {C : Base}

def acode (P : Program) (C : Base) : Code → Env → Heap → (Exit → Env → Heap → Prop) → Prop
  | .skip, env, H, Q => Q .normal env H
  | .region id ops draw, env, H, Q => if draw = true then (P.follows .mixedOrders = true ∧ ∃ q, okDraw q ops = true ∧ aops P C (some q) ops ops.toList env H fun e h => Q .normal e h) ∨ AWp P C (.region id ops true) env H Q else aops P C none ops ops.toList env H fun e h => Q .normal e h
  | .seq a b, env, H, Q => acode P C a env H fun ex e h => match ex with
    | .normal => acode P C b e h Q
    | ex => Q ex e h
  | .cond c a b, env, H, Q => match opA env c with
    | .val (.bool t) => if t = true then acode P C a env H Q else acode P C b env H Q
    | _ => False
  | .block id b, env, H, Q => acode P C b env H fun ex e h => match ex with
    | .exit i => if i = id then Q .normal e h else Q (.exit i) e h
    | ex => Q ex e h
  | .exit id, env, H, Q => Q (.exit id) env H
  | .ret, env, H, Q => Q .ret env H
  | .loop b, env, H, Q => AWp P C (.loop b) env H Q
  | _, _, _, _ => False

def okC (n : Nat) : Code → Bool
  | .region _ ops _ => ops.toList.all (okOp n)
  | .seq a b => okC n a && okC n b
  | .cond c a b => okX n c && okC n a && okC n b
  | .block _ b => okC n b
  | .loop b => okC n b
  | _ => true

theorem AWp.mono {c : Code} {env : Env} {H : Heap} {Q Q' : Exit → Env → Heap → Prop} (h : AWp P C c env H Q) (hq : ∀ ex e h, Q ex e h → Q' ex e h) : AWp P C c env H Q' :=
  fun m w a h1 h2 => wp_mono (h m w a h1 h2) fun ex a' w' ⟨m', e', H', k1, k2, k3⟩ => ⟨m', e', H', k1, k2, hq _ _ _ k3⟩

theorem acode_sound : ∀ {c : Code} {env : Env} {H : Heap} {Q : Exit → Env → Heap → Prop}, acode P C c env H Q → okC C.nG c = true → AWp P C c env H Q
  | .skip, env, H, Q, h, _ => fun m w a h1 h2 => wp_skip ⟨m, env, H, ⟨List.prefix_refl m, Szs.refl w, h1⟩, h2, h⟩
  | .region id ops draw, env, H, Q, h, hok => by
    unfold acode at h
    split at h
    · rename_i hd
      subst hd
      rcases h with ⟨h1, q, h2, h3⟩ | h
      · exact A_draw h1 h2 hok h3
      · exact h
    · rename_i hd
      obtain rfl : draw = false := by simpa using hd
      exact fun m w a h1 h2 => wp_region_list (aops_sound h hok h1 h2 fun m' w' a' env' H' k1 k2 k3 => ⟨m', env', H', k1, k2, k3⟩)
  | .seq x y, env, H, Q, h, hok => by
    unfold acode at h
    simp only [okC, Bool.and_eq_true] at hok
    intro m w a h1 h2
    refine wp_seq (wp_mono (acode_sound h hok.1 m w a h1 h2) ?_)
    rintro ex a' w' ⟨m', e', H', k1, k2, k3⟩
    cases ex with
    | normal =>
      exact wp_mono (acode_sound k3 hok.2 m' w' a' k1.rep k2) fun ex a2 w2 ⟨m2, e2, H2, q1, q2, q3⟩ => ⟨m2, e2, H2, k1.trans q1, q2, q3⟩
    | exit i => exact ⟨m', e', H', k1, k2, k3⟩
    | goto l => exact ⟨m', e', H', k1, k2, k3⟩
    | ret => exact ⟨m', e', H', k1, k2, k3⟩
    | panic ch => exact ⟨m', e', H', k1, k2, k3⟩
    | outgrown => exact ⟨m', e', H', k1, k2, k3⟩
  | .cond c x y, env, H, Q, h, hok => by
    unfold acode at h
    simp only [okC, Bool.and_eq_true] at hok
    split at h
    · rename_i t ht
      intro m w a h1 h2
      have hv := opA_rel h2 h1 (okX_spec hok.1.1)
      rw [ht] at hv
      have hv' : a.eval c = .bool t := hv
      refine wp_cond hv' ?_
      cases t
      · exact acode_sound (by simpa using h) hok.2 m w a h1 h2
      · exact acode_sound (by simpa using h) hok.1.2 m w a h1 h2
    · exact h.elim
  | .block id b, env, H, Q, h, hok => by
    unfold acode at h
    intro m w a h1 h2
    refine wp_block (wp_mono (acode_sound h hok m w a h1 h2) ?_)
    rintro ex a' w' ⟨m', e', H', k1, k2, k3⟩
    cases ex with
    | exit i =>
      show if i = id then _ else _
      split
      · rename_i hi; simp only [hi, if_true] at k3; exact ⟨m', e', H', k1, k2, k3⟩
      · rename_i hi; simp only [hi, if_false] at k3; exact ⟨m', e', H', k1, k2, k3⟩
    | normal => exact ⟨m', e', H', k1, k2, k3⟩
    | goto l => exact ⟨m', e', H', k1, k2, k3⟩
    | ret => exact ⟨m', e', H', k1, k2, k3⟩
    | panic ch => exact ⟨m', e', H', k1, k2, k3⟩
    | outgrown => exact ⟨m', e', H', k1, k2, k3⟩
  | .exit id, env, H, Q, h, _ => fun m w a h1 h2 => wp_exit ⟨m, env, H, ⟨List.prefix_refl m, Szs.refl w, h1⟩, h2, h⟩
  | .ret, env, H, Q, h, _ => fun m w a h1 h2 => wp_ret ⟨m, env, H, ⟨List.prefix_refl m, Szs.refl w, h1⟩, h2, h⟩
  | .loop b, env, H, Q, h, _ => h
  | .rangeFunc .., _, _, _, h, _ => h.elim
  | .scope _, _, _, _, h, _ => h.elim
  | .label _, _, _, _, h, _ => h.elim
  | .goto _, _, _, _, h, _ => h.elim
  | .refuse _, _, _, _, h, _ => h.elim

/-- A loop with a measure that nothing in the state need show. -/
theorem wp_loopn {c : Code} {Q : Exit → Act → World → Prop} (I : Nat → Act → World → Prop)
    (round : ∀ n a w, I n a w → c.wp P (Exit.then (fun a' w' => ∃ n', n' < n ∧ I n' a' w') Q) a w) {n : Nat} {a : Act} {w : World} (h0 : I n a w) : (Code.loop c).wp P Q a w := by
  intro b k cs
  have key : ∀ n a w, I n a w → ∃ e a' w', Q e a' w' ∧ Arrives P (lone (b.at a (.code c :: .inLoop c :: k)) cs w) b k cs e a' w' := by
    intro n
    induction n using Nat.strongRecOn with
    | _ n ih =>
      intro a w hI
      obtain ⟨e, a1, w1, hq, harr⟩ := round n a w hI b (.inLoop c :: k) cs
      have through : ∀ e, e ≠ Exit.normal → Q e a1 w1 → Arrives P (lone (b.at a (.code c :: .inLoop c :: k)) cs w) b (.inLoop c :: k) cs e a1 w1 → ∃ e a' w', Q e a' w' ∧ Arrives P (lone (b.at a (.code c :: .inLoop c :: k)) cs w) b k cs e a' w' :=
        fun e he hq harr => ⟨e, a1, w1, hq, .pass (x := .inLoop c) rfl (fun _ _ => .inl he) harr⟩
      cases e with
      | normal =>
        obtain ⟨n', hlt, hI'⟩ := hq
        obtain ⟨e2, a2, w2, hq2, harr2⟩ := ih n' hlt a1 w1 hI'
        exact ⟨e2, a2, w2, hq2, .of_steps (Steps.trans harr (.one step_inLoop)) harr2⟩
      | exit id => exact through _ (by simp) hq harr
      | goto l => exact through _ (by simp) hq harr
      | ret => exact through _ (by simp) hq harr
      | panic ch => exact through _ (by simp) hq harr
      | outgrown => exact through _ (by simp) hq harr
  obtain ⟨e, a', w', hq, harr⟩ := key n a w h0
  exact ⟨e, a', w', hq, .of_steps (.one step_loop) harr⟩

/-- THE RULE FOR LOOPS. -/
theorem A_loop {b : Code} {Q : Exit → Env → Heap → Prop} (I : Nat → Env → Heap → Prop) (hok : okC C.nG b = true)
    (step : ∀ n env H, I n env H → acode P C b env H fun ex e h => match ex with
      | .normal => ∃ n', n' < n ∧ I n' e h
      | ex => Q ex e h) {n : Nat} {env : Env} {H : Heap} (h0 : I n env H) : AWp P C (.loop b) env H Q := by
  intro m w a h1 h2
  refine wp_loopn (I := fun n a' w' => ∃ m' e' H', Fwd C m w m' w' H' ∧ RepE m' w' e' a' ∧ I n e' H') ?_ (n := n) ⟨m, env, H, ⟨List.prefix_refl m, Szs.refl w, h1⟩, h2, h0⟩
  rintro n a' w' ⟨m', e', H', k1, k2, k3⟩
  refine wp_mono (acode_sound (step n e' H' k3) hok m' w' a' k1.rep k2) ?_
  rintro ex a2 w2 ⟨m2, e2, H2, q1, q2, q3⟩
  cases ex with
  | normal =>
    obtain ⟨n', hlt, hI⟩ := q3
    exact ⟨n', hlt, m2, e2, H2, k1.trans q1, q2, hI⟩
  | exit i => exact ⟨m2, e2, H2, k1.trans q1, q2, q3⟩
  | goto l => exact ⟨m2, e2, H2, k1.trans q1, q2, q3⟩
  | ret => exact ⟨m2, e2, H2, k1.trans q1, q2, q3⟩
  | panic ch => exact ⟨m2, e2, H2, k1.trans q1, q2, q3⟩
  | outgrown => exact ⟨m2, e2, H2, k1.trans q1, q2, q3⟩

/-- A function's results. -/
def resA (P : Program) (env : Env) (H : Heap) : List ResultVar → Option (List AV)
  | [] => some []
  | .tmp t :: r => (resA P env H r).map (env.getD t .any :: ·)
  | .cell p t :: r => (loadA P t (env.getD p .any) H).bind fun c => (resA P env H r).map (c.1 :: ·)
def packA : List AV → AV
  | [c] => c
  | l => .tup l
theorem resA_run {env : Env} {H : Heap} {m : Places} {w : World} {a : Act} (hH : RepH C m w H) (hE : RepE m w env a) {g : ResultVar → Sem Value} (g1 : ∀ t, g (.tmp t) = pure (a.tmps.getD t undef)) (g2 : ∀ p t, g (.cell p t) = do loadVar t (← asAddr (a.tmps.getD p undef))) : ∀ {l : List ResultVar} {cs : List AV}, resA P env H l = some cs →
    ∃ vs : List Value, (l.mapM g).run P w = .ok vs w ∧ rels m w cs vs
  | [], cs, h => by simp only [resA, Option.some.injEq] at h; subst h; exact ⟨[], rfl, trivial⟩
  | .tmp t :: l, cs, h => by
    simp only [resA, Option.map_eq_some_iff] at h
    obtain ⟨cs', h1, rfl⟩ := h
    obtain ⟨vs, h2, h3⟩ := resA_run hH hE g1 g2 h1
    exact ⟨a.tmps.getD t undef :: vs, by rw [List.mapM_cons]; simp only [Sem.run_bind, g1, Sem.run_pure, Result.andThen_ok, h2], hE.get t, h3⟩
  | .cell p t :: l, cs, h => by
    simp only [resA, Option.bind_eq_some_iff, Option.map_eq_some_iff] at h
    obtain ⟨⟨c, Hc⟩, h0, cs', h1, rfl⟩ := h
    obtain ⟨vs, h2, h3⟩ := resA_run hH hE g1 g2 h1
    have hp := hE.get p
    obtain ⟨_, u, h4, h5⟩ := loadA_run h0 hH hp
    have h6 : (g (.cell p t)).run P w = .ok u w := by
      rw [g2]
      generalize env.getD p .any = x at h0 hp
      generalize a.tmps.getD p undef = y at h4 hp ⊢
      cases x with
      | ptr o off =>
        obtain ⟨b, _, rfl⟩ := hp
        exact h4
      | _ => simp [loadA] at h0
    exact ⟨u :: vs, by rw [List.mapM_cons, Sem.run_bind, h6, Result.andThen_ok, Sem.run_bind, h2]; rfl, h5, h3⟩

/-- THE RULE FOR A FUNCTION. -/
theorem A_enter {f : FuncId} {fn : Func} {c : Code} {args : List AV} {H : Heap} {R : AV → Heap → Prop} (hf : P.funcs[f]? = some fn) (hb : fn.body = some c) (hn : (fn.name == "runtime.NumGoroutine") = false) (hok : okC C.nG c = true)
    (h : acode P C c (args ++ List.replicate (fn.ntmps - args.length) (.val undef)) H fun ex env' H' => (ex = .normal ∨ ex = .ret) ∧ ∃ cs, resA P env' H' fn.results.toList = some cs ∧ R (packA cs) H') : ACalls P C f args H R := by
  refine ⟨⟨fn, hf, hn, by rw [hb]; rfl⟩, fun m w vals h1 h2 => calls_of_wp hf hb ?_⟩
  have hl := rels_length h2
  have hrep : ∀ n, rels m w (List.replicate n (AV.val undef)) (List.replicate n undef) := fun n => by
    induction n with
    | zero => trivial
    | succ n ih => exact ⟨rfl, ih⟩
  have hE : RepE m w (args ++ List.replicate (fn.ntmps - args.length) (.val undef)) { tmps := vals ++ Array.replicate (fn.ntmps - vals.size) undef, defers := [] } :=
    ⟨rfl, by simp only [Array.toList_append, Array.toList_replicate]; refine rels_append h2 ?_; rw [hl]; simpa using hrep _⟩
  refine wp_mono (acode_sound h hok m w _ h1 hE) ?_
  rintro ex a' w' ⟨m', e', H', k1, k2, hex, cs, k3, k4⟩
  have hres : ∃ v, (results fn a'.tmps).run P w' = .ok v w' ∧ rel m' w' (packA cs) v := by
    unfold results
    rw [Array.mapM_eq_mapM_toList, ← bind_pure_comp]
    simp only [Sem.run_bind]
    have key : ∀ g : ResultVar → Sem Value, (∀ t, g (.tmp t) = pure (a'.tmps.getD t undef)) → (∀ p t, g (.cell p t) = do loadVar t (← asAddr (a'.tmps.getD p undef))) → ∃ v, (((fn.results.toList.mapM g).run P w').andThen fun x w2 => (pure x.toArray : Sem (Array Value)).run P w2).andThen (fun x w2 => (pure (if h : x.size = 1 then x[0] else .tuple x) : Sem Value).run P w2) = .ok v w' ∧ rel m' w' (packA cs) v := ?_
    · exact key _ (fun _ => rfl) (fun _ _ => rfl)
    intro g g1 g2
    obtain ⟨vs, h3, h4⟩ := resA_run (P := P) k1.rep k2 g1 g2 k3
    refine ⟨if h : vs.toArray.size = 1 then vs.toArray[0] else .tuple vs.toArray, ?_, ?_⟩
    · rw [h3]
      rfl
    · match cs, vs, h4 with
      | [c], [v], h4 => exact h4.1
      | [], [], h4 => exact ⟨#[], rfl, trivial⟩
      | c :: c' :: cs, v :: v' :: vs, h4 => exact ⟨(v :: v' :: vs).toArray, by simp, h4⟩
  obtain ⟨v, h5, h6⟩ := hres
  have hpost : a'.defers = [] ∧ ∃ v, (results fn a'.tmps).run P w' = .ok v w' ∧ ∃ rv m' H' r, Ending.returned v = .returned rv ∧ Fwd C m w m' w' H' ∧ rel m' w' r rv ∧ R r H' := ⟨k2.defers, v, h5, v, m', H', packA cs, rfl, k1, h6, k4⟩
  rcases hex with rfl | rfl
  · exact hpost
  · exact hpost
end Go.Proofs.YtlfpjdcogkcjlaaGreatDoor.AL
/-
  The logic's rules as equations: one call of simp walks code that neither parts nor calls.
-/
namespace Go.Proofs.YtlfpjdcogkcjlaaGreatDoor.AL
open Go.RowKit
set_option linter.unusedVariables false
set_option linter.unusedSimpArgs false
variable {P : Program} {C : Base}

/-- Slots: those of e, and over them those that were put, the last one first. -/
def mk (e : Env) (l : List (Nat × AV)) : Env := l.foldr (fun p e => e.set p.1 p.2) e
def get (e : Env) (k : Nat) : AV := e.getD k .any
def len (e : Env) : Nat := e.length
def look (l : List (Nat × AV)) (j : Nat) (d : AV) : AV := match l with
  | [] => d
  | (k, v) :: l => if k = j then v else look l j d
theorem len_mk (e : Env) (l : List (Nat × AV)) : len (mk e l) = len e := by
  induction l with
  | nil => rfl
  | cons p l ih => simpa [len, mk] using ih
theorem get_mk {e : Env} {l : List (Nat × AV)} {j : Nat} (h : j < len e) : get (mk e l) j = look l j (get e j) := by
  induction l with
  | nil => rfl
  | cons p l ih =>
    have hl := len_mk e l
    unfold len at hl h
    unfold look
    split
    · rename_i hp
      subst hp
      have h2 : p.1 < (mk e l).length := by rw [hl]; exact h
      show ((mk e l).set p.1 p.2).getD p.1 .any = p.2
      simp [h2]
    · rename_i hp
      rw [← ih]
      show ((mk e l).set p.1 p.2).getD j .any = (mk e l).getD j .any
      simp [List.getElem?_set_ne hp]
theorem look_nil {j : Nat} {d : AV} : look [] j d = d := rfl
theorem look_eq {l : List (Nat × AV)} {j : Nat} {v d : AV} : look ((j, v) :: l) j d = v := by simp [look]
theorem look_ne {l : List (Nat × AV)} {k j : Nat} {v d : AV} (h : (k == j) = false) : look ((k, v) :: l) j d = look l j d := by
  have : k ≠ j := by simpa using h
  simp [look, this]
theorem mk_nil (e : Env) : mk e [] = e := _root_.id rfl
theorem setD_some (e : Env) (l : List (Nat × AV)) (k : Nat) (v : AV) : setD (mk e l) (some k) v = mk e ((k, v) :: l) := rfl
theorem setD_none (e : Env) (v : AV) : setD e none v = e := rfl
theorem opA_tmp (e : Env) (t : Nat) : opA e (.tmp t) = get e t := rfl
theorem opA_const (e : Env) (v : Value) : opA e (.const v) = .val v := rfl
theorem opA_global (e : Env) (g : Nat) : opA e (.global g) = .ptr g 0 := rfl
theorem opA_func (e : Env) (f : Nat) : opA e (.func f) = .fn (.func f) [] [] := rfl

def Kseq (P : Program) (C : Base) (b : Code) (Q : Exit → Env → Heap → Prop) : Exit → Env → Heap → Prop := fun ex e h => match ex with
  | .normal => acode P C b e h Q
  | ex => Q ex e h
def Kblk (id : Nat) (Q : Exit → Env → Heap → Prop) : Exit → Env → Heap → Prop := fun ex e h => match ex with
  | .exit i => if i = id then Q .normal e h else Q (.exit i) e h
  | ex => Q ex e h
def Knorm (Q : Exit → Env → Heap → Prop) : Env → Heap → Prop := fun e h => Q .normal e h
def condK (c : AV) (P : Program) (C : Base) (a b : Code) (env : Env) (H : Heap) (Q : Exit → Env → Heap → Prop) : Prop := match c with
  | .val (.bool t) => if t = true then acode P C a env H Q else acode P C b env H Q
  | _ => False

section
variable {env : Env} {H : Heap} {Q : Exit → Env → Heap → Prop} {a b : Code} {id i j : Nat}
theorem acode_skip : acode P C .skip env H Q = Q .normal env H := _root_.id rfl
theorem acode_seq : acode P C (.seq a b) env H Q = acode P C a env H (Kseq P C b Q) := by
  rw [acode]; rfl
theorem acode_region {l : List Oper} : acode P C (.region id (List.toArray l) false) env H Q = aops P C none (List.toArray l) l env H (Knorm Q) := by rw [acode, if_neg (by simp)]; rfl
theorem acode_drawQ {l : List Oper} (q : List Nat) (hm : P.follows .mixedOrders = true) (hok : okDraw q (List.toArray l) = true) (h : aops P C (some q) (List.toArray l) l env H (Knorm Q)) : acode P C (.region id (List.toArray l) true) env H Q := by
  rw [acode, if_pos rfl]; exact .inl ⟨hm, q, hok, h⟩
theorem acode_draw {l : List Oper} (hm : P.follows .mixedOrders = true) (hok : okDraw [] (List.toArray l) = true) (h : aops P C (some []) (List.toArray l) l env H (Knorm Q)) : acode P C (.region id (List.toArray l) true) env H Q := acode_drawQ [] hm hok h
theorem acode_cond {c : Operand} : acode P C (.cond c a b) env H Q = condK (opA env c) P C a b env H Q := by rw [acode]; rfl
theorem acode_block : acode P C (.block id b) env H Q = acode P C b env H (Kblk id Q) := by
  rw [acode]; rfl
theorem acode_exit : acode P C (.exit id) env H Q = Q (.exit id) env H := _root_.id rfl
theorem acode_ret : acode P C .ret env H Q = Q .ret env H := _root_.id rfl
theorem acode_loop : acode P C (.loop b) env H Q = AWp P C (.loop b) env H Q := _root_.id rfl
theorem Kseq_normal : Kseq P C b Q .normal env H = acode P C b env H Q := _root_.id rfl
theorem Kseq_exit : Kseq P C b Q (.exit i) env H = Q (.exit i) env H := _root_.id rfl
theorem Kseq_ret : Kseq P C b Q .ret env H = Q .ret env H := _root_.id rfl
theorem Kblk_normal : Kblk i Q .normal env H = Q .normal env H := _root_.id rfl
theorem Kblk_ret : Kblk i Q .ret env H = Q .ret env H := _root_.id rfl
theorem Kblk_eq : Kblk i Q (.exit i) env H = Q .normal env H := by simp [Kblk]
theorem Kblk_ne (h : (j == i) = false) : Kblk i Q (.exit j) env H = Q (.exit j) env H := by
  have : j ≠ i := by simpa using h
  simp [Kblk, this]
theorem Knorm_eq : Knorm Q env H = Q .normal env H := _root_.id rfl
end
section
variable {env : Env} {H : Heap} {Q : Exit → Env → Heap → Prop} {a b : Code} {c : Bool}
theorem condK_true : condK (.val (.bool true)) P C a b env H Q = acode P C a env H Q := by simp [condK]
theorem condK_false : condK (.val (.bool false)) P C a b env H Q = acode P C b env H Q := by simp [condK]
theorem condK_of (h1 : c = true → acode P C a env H Q) (h2 : c = false → acode P C b env H Q) : condK (.val (.bool c)) P C a b env H Q := by cases c <;> simp_all [condK]
end

/-- A step among operations. -/
def bindK (a : Ans) (P : Program) (C : Base) (d : Option (List Nat)) (ops : Array Oper) (rest : List Oper) (env : Env) (dst : Option Nat) (K : Env → Heap → Prop) : Prop := match a with
  | some (r, H') => aops P C d ops rest (setD env dst r) H' K
  | none => False
def bindV (a : Option AV) (H : Heap) (P : Program) (C : Base) (d : Option (List Nat)) (ops : Array Oper) (rest : List Oper) (env : Env) (dst : Option Nat) (K : Env → Heap → Prop) : Prop := match a with
  | some r => aops P C d ops rest (setD env dst r) H K
  | none => False
def bindH (a : Option Heap) (P : Program) (C : Base) (d : Option (List Nat)) (ops : Array Oper) (rest : List Oper) (env : Env) (dst : Option Nat) (K : Env → Heap → Prop) : Prop := match a with
  | some H' => aops P C d ops rest (setD env dst .any) H' K
  | none => False
/-- A call among operations. -/
def callX (P : Program) (C : Base) (d : Option (List Nat)) (f : FuncId) (args : List AV) (H : Heap) (ops : Array Oper) (rest : List Oper) (env : Env) (dst : Option Nat) (K : Env → Heap → Prop) : Prop :=
  callK P C d f args H fun r H' => aops P C d ops rest (setD env dst r) H' K
/-- An operation that is carried out where a slot says so. -/
def guardK (c : Option Bool) (P : Program) (C : Base) (d : Option (List Nat)) (ops : Array Oper) (o : Oper) (rest : List Oper) (env : Env) (H : Heap) (K : Env → Heap → Prop) : Prop := match c with
  | some true => aops P C d ops (o :: rest) env H K
  | some false => aops P C d ops rest (setD env o.dst (.val undef)) H K
  | none => False
def wantK (d : Option Tmp) (want : Bool) (env : Env) : Option Bool := match d with
  | some d => match get env d with
    | .val (.bool b) => some (b == want)
    | .val (.tuple _) => some false
    | _ => none
  | none => none
def wantV (x : AV) (want : Bool) : Option Bool := match x with
  | .val (.bool b) => some (b == want)
  | .val (.tuple _) => some false
  | _ => none

def pickA (c a b : AV) : Option AV := match c with
  | .val (.bool t) => some (if t then a else b)
  | _ => none
def nilA (x : AV) : Option AV := match x with
  | .ptr a b => some (.ptr a b)
  | .fn (.func f) a c => some (.fn (.func f) a c)
  | _ => none
def fieldV (P : Program) (s : TypeId) (x : AV) (f : Nat) : Option AV := match x, fo P s f with
  | .ptr o off, some k => some (.ptr o (off + k))
  | _, _ => none
def slotV (P : Program) (t : TypeId) (x i : AV) : Option AV := (indexAddrA P t x i []).map (·.1)
def sliceV (P : Program) (t : TypeId) (x : AV) (lo hi : Option AV) : Option AV := (sliceA P t x lo hi []).map (·.1)
def buildV (P : Program) (t : TypeId) (l : Option (List (Nat × List AV))) : Option AV := l.bind fun l => (buildA P t l []).map (·.1)
def loadV (P : Program) (t : TypeId) (x : AV) (H : Heap) : Option AV := (loadA P t x H).map (·.1)
def allocA (z : Option (List Value)) (e : TypeId) (H : Heap) : Ans := match z with
  | some zs => if zs.all Value.oneCell' then some (.ptr H.length 0, H ++ [.own e (zs.map .val)]) else none
  | none => none
def boxA (e : TypeId) (x : AV) (H : Heap) : Ans := (avCells x).map fun l => (.ptr H.length 0, H ++ [.own e l])
def unV (P : Program) (op : UnOp) (x : AV) : Option AV := (plain x).bind fun v => (pureRun P (Op.unary op v)).map .val
def convV (P : Program) (s d : TypeId) (x : AV) : Option AV := (plain x).bind fun v => (pureRun P (convert s d v)).map .val
def ifaceV (P : Program) (t : TypeId) (x : AV) : Option AV := match isIface P t with
  | some false => some (.ifc t x)
  | _ => none
def bsA (P : Program) (t n : Nat) (l : Option (List (Nat × List AV))) (H : Heap) : Ans := l.bind fun l => buildSliceA P t n l H

section
variable {d : Option (List Nat)} {ops : Array Oper} {rest : List Oper} {env : Env} {H H' : Heap} {K : Env → Heap → Prop} {r : AV} {dst : Option Nat}
theorem bindK_some : bindK (some (r, H')) P C d ops rest env dst K = aops P C d ops rest (setD env dst r) H' K := _root_.id rfl
theorem bindV_some : bindV (some r) H P C d ops rest env dst K = aops P C d ops rest (setD env dst r) H K := _root_.id rfl
theorem bindH_some : bindH (some H') P C d ops rest env dst K = aops P C d ops rest (setD env dst .any) H' K := _root_.id rfl
theorem aops_nil : aops P C d ops [] env H K = K env H := _root_.id rfl
section
variable {e : Env} {l : List (Nat × AV)} {k : Nat}
theorem bindK_put : bindK (some (r, H')) P C d ops rest (mk e l) (some k) K = aops P C d ops rest (mk e ((k, r) :: l)) H' K := _root_.id rfl
theorem bindV_put : bindV (some r) H P C d ops rest (mk e l) (some k) K = aops P C d ops rest (mk e ((k, r) :: l)) H K := _root_.id rfl
theorem bindK_no : bindK (some (r, H')) P C d ops rest env none K = aops P C d ops rest env H' K := _root_.id rfl
theorem bindV_no : bindV (some r) H P C d ops rest env none K = aops P C d ops rest env H K := _root_.id rfl
theorem bindH_no : bindH (some H') P C d ops rest env none K = aops P C d ops rest env H' K := _root_.id rfl
end
variable {ty : TypeId} {p : String} {af : Array Edge}
theorem aops_of {o : Oper} (hg : o.guard = none) (hc : ∀ c, o.op = .call c → callOf env c = none) : aops P C d ops (o :: rest) env H K = bindK (astep P o env H) P C d ops rest env o.dst K := by
  rw [aops]
  have hw : wantA ops o env = some true := by unfold wantA; rw [hg]
  rw [hw]
  simp only
  split
  · rename_i c ho
    rw [hc c ho]
    simp only
    cases astep P o env H <;> rfl
  · cases astep P o env H <;> rfl
theorem ofK {a a' : Ans} (h : a = a') : bindK a P C d ops rest env dst K = bindK a' P C d ops rest env dst K := by rw [h]
theorem ofV {x : Option AV} {a : Ans} (h : a = x.map fun c => (c, H)) : bindK a P C d ops rest env dst K = bindV x H P C d ops rest env dst K := by subst h; cases x <;> rfl
theorem ofH {x : Option Heap} {a : Ans} (h : a = x.map fun H' => (.any, H')) : bindK a P C d ops rest env dst K = bindH x P C d ops rest env dst K := by subst h; cases x <;> rfl
theorem same_val {g : Heap → Ans} (h : Same g) (H : Heap) : g H = ((g []).map (·.1)).map fun c => (c, H) := by
  cases hg : g [] with
  | none => cases hH : g H with
    | none => rfl
    | some x =>
      have := (h (r := x.1) (H' := x.2) hH).2 []
      rw [hg] at this; cases this
  | some x => rw [(h (r := x.1) (H' := x.2) hg).2 H]; rfl
theorem gops {op : Op} {j : Nat} {w : Bool} : aops P C d ops (⟨dst, op, ty, p, af, some (j, w)⟩ :: rest) env H K = guardK (wantK ((ops[j]?).bind (·.dst)) w env) P C d ops ⟨dst, op, ty, p, af, none⟩ rest env H K := by
  rw [aops]
  have : wantA ops ⟨dst, op, ty, p, af, some (j, w)⟩ env = wantK ((ops[j]?).bind (·.dst)) w env := rfl
  rw [this]
  cases hw : wantK ((ops[j]?).bind (·.dst)) w env with
  | none => rfl
  | some b => cases b with
    | false => rfl
    | true => show _ = aops P C d ops (⟨dst, op, ty, p, af, none⟩ :: rest) env H K; rw [aops]; rfl
theorem wantK_some {k : Nat} {w : Bool} : wantK (some k) w env = wantV (get env k) w := rfl
theorem wantV_bool {b w : Bool} : wantV (.val (.bool b)) w = some (b == w) := rfl
theorem wantV_undef {w : Bool} : wantV (.val undef) w = some false := rfl
theorem guardK_true {o : Oper} : guardK (some true) P C d ops o rest env H K = aops P C d ops (o :: rest) env H K := _root_.id rfl
theorem guardK_false {op : Op} {e : Env} {l : List (Nat × AV)} {k : Nat} : guardK (some false) P C d ops ⟨some k, op, ty, p, af, none⟩ rest (mk e l) H K = aops P C d ops rest (mk e ((k, .val undef) :: l)) H K := _root_.id rfl
theorem guardK_none {op : Op} : guardK (some false) P C d ops ⟨none, op, ty, p, af, none⟩ rest env H K = aops P C d ops rest env H K := _root_.id rfl
theorem guardK_of {b w : Bool} {o : Oper} (h1 : (b == w) = true → aops P C d ops (o :: rest) env H K) (h2 : (b == w) = false → guardK (some false) P C d ops o rest env H K) : guardK (some (b == w)) P C d ops o rest env H K := by
  cases h : (b == w) with
  | true => exact h1 h
  | false => exact h2 h
theorem map_val {α : Type} {x : Option α} {f : α → Option Value} : (x.bind fun v => (f v).map fun r => (AV.val r, H)) = (x.bind fun v => (f v).map AV.val).map fun c => (c, H) := by
  cases x with
  | none => rfl
  | some v => cases h : f v <;> simp [h]
theorem aops_move {x : Operand} : aops P C d ops (⟨dst, .move x, ty, p, af, none⟩ :: rest) env H K = bindV (some (opA env x)) H P C d ops rest env dst K := by
  refine (aops_of rfl (by intro c h; cases h)).trans (ofV ?_)
  rfl
theorem aops_assign {x : Operand} : aops P C d ops (⟨dst, .assign x, ty, p, af, none⟩ :: rest) env H K = bindV (some (opA env x)) H P C d ops rest env dst K := by
  refine (aops_of rfl (by intro c h; cases h)).trans (ofV ?_)
  rfl
theorem aops_pick {c x y : Operand} : aops P C d ops (⟨dst, .pick c x y, ty, p, af, none⟩ :: rest) env H K = bindV (pickA (opA env c) (opA env x) (opA env y)) H P C d ops rest env dst K := by
  refine (aops_of rfl (by intro c h; cases h)).trans (ofV ?_)
  show astep P _ env H = _; unfold astep pickA; simp only; split <;> simp_all
theorem aops_nilCheck {x : Operand} : aops P C d ops (⟨dst, .nilCheck x, ty, p, af, none⟩ :: rest) env H K = bindV (nilA (opA env x)) H P C d ops rest env dst K := by
  refine (aops_of rfl (by intro c h; cases h)).trans (ofV ?_)
  show astep P _ env H = _; unfold astep nilA; simp only; split <;> simp_all
theorem aops_binOp {op : BinOp} {t yt : TypeId} {x y : Operand} : aops P C d ops (⟨dst, .binOp op t x y yt, ty, p, af, none⟩ :: rest) env H K = bindV (binA P op t x y (opA env x) (opA env y)) H P C d ops rest env dst K := by
  refine (aops_of rfl (by intro c h; cases h)).trans (ofV ?_)
  rfl
theorem aops_unOp {op : UnOp} {t : TypeId} {x : Operand} : aops P C d ops (⟨dst, .unOp op t x, ty, p, af, none⟩ :: rest) env H K = bindV (unV P op (opA env x)) H P C d ops rest env dst K := by
  refine (aops_of rfl (by intro c h; cases h)).trans (ofV ?_)
  exact map_val
theorem aops_convert {s t : TypeId} {x : Operand} : aops P C d ops (⟨dst, .convert s t x, ty, p, af, none⟩ :: rest) env H K = bindV (convV P s t (opA env x)) H P C d ops rest env dst K := by
  refine (aops_of rfl (by intro c h; cases h)).trans (ofV ?_)
  exact map_val
theorem aops_fieldAddr {t : TypeId} {x : Operand} {f : Nat} : aops P C d ops (⟨dst, .fieldAddr t x f, ty, p, af, none⟩ :: rest) env H K = bindV (fieldV P t (opA env x) f) H P C d ops rest env dst K := by
  refine (aops_of rfl (by intro c h; cases h)).trans (ofV ?_)
  show fieldAddrA P t (opA env x) f H = _; unfold fieldAddrA fieldV; split <;> simp_all
theorem aops_indexAddr {t : TypeId} {x y : Operand} : aops P C d ops (⟨dst, .indexAddr t x y, ty, p, af, none⟩ :: rest) env H K = bindV (slotV P t (opA env x) (opA env y)) H P C d ops rest env dst K := by
  refine (aops_of rfl (by intro c h; cases h)).trans (ofV ?_)
  exact same_val (same_index _ _ _) H
theorem aops_slice {t : TypeId} {x : Operand} {lo hi : Option Operand} : aops P C d ops (⟨dst, .slice t x lo hi none, ty, p, af, none⟩ :: rest) env H K = bindV (sliceV P t (opA env x) (lo.map (opA env)) (hi.map (opA env))) H P C d ops rest env dst K := by
  refine (aops_of rfl (by intro c h; cases h)).trans (ofV ?_)
  exact same_val (same_slice _ _ _ _) H
theorem aops_index {t : TypeId} {x y : Operand} : aops P C d ops (⟨dst, .index t x y, ty, p, af, none⟩ :: rest) env H K = bindV (indexA P t (opA env x) (opA env y)) H P C d ops rest env dst K := by
  refine (aops_of rfl (by intro c h; cases h)).trans (ofV ?_)
  rfl
theorem aops_extract {x : Operand} {k : Nat} : aops P C d ops (⟨dst, .extract x k, ty, p, af, none⟩ :: rest) env H K = bindV (extractA (opA env x) k) H P C d ops rest env dst K := by
  refine (aops_of rfl (by intro c h; cases h)).trans (ofV ?_)
  rfl
theorem aops_makeInterface {t : TypeId} {x : Operand} : aops P C d ops (⟨dst, .makeInterface t x, ty, p, af, none⟩ :: rest) env H K = bindV (ifaceV P t (opA env x)) H P C d ops rest env dst K := by
  refine (aops_of rfl (by intro c h; cases h)).trans (ofV ?_)
  show astep P _ env H = _; unfold astep ifaceV; simp only; split <;> simp_all
theorem aops_makeFunc {f : Fn} {l l' : List Operand} : aops P C d ops (⟨dst, .makeFunc f (List.toArray l) (List.toArray l'), ty, p, af, none⟩ :: rest) env H K = bindV (some (.fn f (l.map (opA env)) (l'.map (opA env)))) H P C d ops rest env dst K := by
  refine (aops_of rfl (by intro c h; cases h)).trans (ofV ?_)
  rfl
theorem aops_build {t : TypeId} {l : List (Nat × Operand)} : aops P C d ops (⟨dst, .build t (List.toArray l), ty, p, af, none⟩ :: rest) env H K = bindV (buildV P t (partsA env l)) H P C d ops rest env dst K := by
  refine (aops_of rfl (by intro c h; cases h)).trans (ofV ?_)
  show ((partsA env l).bind fun r => buildA P t r H) = _; unfold buildV; cases partsA env l with
  | none => rfl
  | some l' => exact same_val (same_build _ _) H
theorem aops_load {t : TypeId} {x : Operand} : aops P C d ops (⟨dst, .load t x, ty, p, af, none⟩ :: rest) env H K = bindV (loadV P t (opA env x) H) H P C d ops rest env dst K := by
  refine (aops_of rfl (by intro c h; cases h)).trans (ofV ?_)
  show loadA P t (opA env x) H = _; unfold loadV; cases h : loadA P t (opA env x) H with
  | none => rfl
  | some r => have := loadA_same (r := r.1) (H' := r.2) h; simp only [Option.map_some, ← this]
theorem aops_lookup {t : TypeId} {x y : Operand} {ok : Bool} : aops P C d ops (⟨dst, .lookup t x y ok, ty, p, af, none⟩ :: rest) env H K = bindV (lookupA P t (opA env x) (opA env y) ok H) H P C d ops rest env dst K := by
  refine (aops_of rfl (by intro c h; cases h)).trans (ofV ?_)
  rfl
theorem aops_alloc {e : TypeId} : aops P C d ops (⟨dst, .alloc e, ty, p, af, none⟩ :: rest) env H K = bindK (allocA (zc P e) e H) P C d ops rest env dst K := by
  refine (aops_of rfl (by intro c h; cases h)).trans (ofK ?_)
  rfl
theorem aops_box {e : TypeId} {x : Operand} : aops P C d ops (⟨dst, .box e x, ty, p, af, none⟩ :: rest) env H K = bindK (boxA e (opA env x) H) P C d ops rest env dst K := by
  refine (aops_of rfl (by intro c h; cases h)).trans (ofK ?_)
  rfl
theorem aops_buildSlice {t n : Nat} {l : List (Nat × Operand)} : aops P C d ops (⟨dst, .buildSlice t n (List.toArray l), ty, p, af, none⟩ :: rest) env H K = bindK (bsA P t n (partsA env l) H) P C d ops rest env dst K := by
  refine (aops_of rfl (by intro c h; cases h)).trans (ofK ?_)
  rfl
theorem aops_makeSlice {t : TypeId} {x y : Operand} : aops P C d ops (⟨dst, .makeSlice t x y, ty, p, af, none⟩ :: rest) env H K = bindK (makeSliceA P t (opA env x) (opA env y) H) P C d ops rest env dst K := by
  refine (aops_of rfl (by intro c h; cases h)).trans (ofK ?_)
  rfl
theorem aops_makeMap {t : TypeId} : aops P C d ops (⟨dst, .makeMap t none, ty, p, af, none⟩ :: rest) env H K = bindK (some (.mp H.length, H ++ [.map []])) P C d ops rest env dst K := by
  refine (aops_of rfl (by intro c h; cases h)).trans (ofK ?_)
  rfl
theorem aops_store {t : TypeId} {x y : Operand} : aops P C d ops (⟨dst, .store t x y, ty, p, af, none⟩ :: rest) env H K = bindH (storeA P t (opA env x) (opA env y) H) P C d ops rest env dst K := by
  refine (aops_of rfl (by intro c h; cases h)).trans (ofH ?_)
  rfl
theorem aops_insert {t : TypeId} {x y z : Operand} : aops P C d ops (⟨dst, .insert t x y z, ty, p, af, none⟩ :: rest) env H K = bindH (insertA P t (opA env x) (opA env y) (opA env z) H) P C d ops rest env dst K := by
  refine (aops_of rfl (by intro c h; cases h)).trans (ofH ?_)
  rfl
theorem aops_mapUpdate {t : TypeId} {x y z : Operand} : aops P C d ops (⟨dst, .mapUpdate t x y z, ty, p, af, none⟩ :: rest) env H K = bindH (insertA P t (opA env x) (opA env y) (opA env z) H) P C d ops rest env dst K := by
  refine (aops_of rfl (by intro c h; cases h)).trans (ofH ?_)
  rfl
theorem aops_len {x : Operand} {t : TypeId} : aops P C d ops (⟨dst, .call ⟨.builtin .len, List.toArray [x], List.toArray [t]⟩, ty, p, af, none⟩ :: rest) env H K = bindV (lenA P t (opA env x)) H P C d ops rest env dst K := by
  refine (aops_of rfl (by intro c h; cases h; rfl)).trans (ofV ?_)
  rfl
theorem aops_append {x y : Operand} {t : TypeId} : aops P C d ops (⟨dst, .call ⟨.builtin .append, List.toArray [x, y], List.toArray [t, t]⟩, ty, p, af, none⟩ :: rest) env H K = bindK (appendA P t (opA env x) (opA env y) H) P C d ops rest env dst K := by
  refine (aops_of rfl (by intro c h; cases h; rfl)).trans (ofK ?_)
  show builtinA P .append ty [opA env x, opA env y] (List.toArray [t, t]) H = _; unfold builtinA; simp
theorem aops_call {f : Nat} {l : List Operand} {ts : Array TypeId} : aops P C d ops (⟨dst, .call ⟨.value (.func f), List.toArray l, ts⟩, ty, p, af, none⟩ :: rest) env H K = callX P C d f (l.map (opA env)) H ops rest env dst K := by
  rw [aops]
  simp only [wantA, callOf, opA, List.nil_append, List.append_nil]
  rfl

/-- Are calls of a function among those that leave the objects alone? -/
def quietD (d : Option (List Nat)) (f : FuncId) : Bool := match d with
  | none => false
  | some q => q.contains f
/-- A call by its contract: one answer, objects added. -/
theorem callX_of {f : FuncId} {args : List AV} {r : AV} (h : ACalls P C f args H fun r' H2 => r' = r ∧ H2 = H') (hp : H <+: H') (hk : aops P C d ops rest (setD env dst r) H' K) (hq : quietD d f = false := by rfl) : callX P C d f args H ops rest env dst K := by
  unfold callX callK
  cases d with
  | none => exact h.mono fun r' H2 ⟨e1, e2⟩ => e1 ▸ e2 ▸ hk
  | some q =>
    have hq' : q.contains f = false := hq
    exact .inl ⟨r, H', h, hp, fun (e : q.contains f = true) => absurd e (by rw [hq']; simp), hk⟩
/-- A call that leaves the objects alone, whatever more there are. -/
theorem callX_quiet {f : FuncId} {args : List AV} {r : AV} (h : ∀ G, ACalls P C f args (H ++ G) fun r' H2 => r' = r ∧ H2 = H ++ G) (hk : aops P C d ops rest (setD env dst r) H K) : callX P C d f args H ops rest env dst K := by
  have h0 : ACalls P C f args H fun r' H2 => r' = r ∧ H2 = H := by have := h []; rwa [List.append_nil] at this
  unfold callX callK
  cases d with
  | none => exact h0.mono fun r' H2 ⟨e1, e2⟩ => e1 ▸ e2 ▸ hk
  | some q => exact .inl ⟨r, H, h0, List.prefix_refl _, fun _ => ⟨rfl, h⟩, hk⟩
/-- A call that may answer in several ways, but adds objects alone. -/
theorem callX_many {f : FuncId} {args : List AV} {R : AV → Heap → Prop} (h : ACalls P C f args H R) (hg : ∀ r H', R r H' → H <+: H') (hne : ∃ r H', R r H') (hk : ∀ r H', R r H' → aops P C d ops rest (setD env dst r) H' K) (hq : quietD d f = false := by rfl) : callX P C d f args H ops rest env dst K := by
  unfold callX callK
  cases d with
  | none => exact h.mono hk
  | some q => exact .inr ⟨hq, R, h, hg, hne, hk⟩
theorem callX_any {f : FuncId} {args : List AV} {R : AV → Heap → Prop} (h : ACalls P C f args H R) (hk : ∀ r H', R r H' → aops P C none ops rest (setD env dst r) H' K) : callX P C none f args H ops rest env dst K := h.mono hk
end

section
variable {d : Option (List Nat)} {ops : Array Oper} {rest : List Oper} {env : Env} {H : Heap} {K : Env → Heap → Prop} {dst : Option Nat} {c : Code} {Q : Exit → Env → Heap → Prop}
@[congr] theorem condK_cg {x y : AV} {a b : Code} (h : x = y) : condK x P C a b env H Q = condK y P C a b env H Q := by rw [h]
@[congr] theorem guardK_cg {x y : Option Bool} {o : Oper} (h : x = y) : guardK x P C d ops o rest env H K = guardK y P C d ops o rest env H K := by rw [h]
@[congr] theorem bindK_cg {x y : Ans} (h : x = y) : bindK x P C d ops rest env dst K = bindK y P C d ops rest env dst K := by rw [h]
@[congr] theorem bindV_cg {x y : Option AV} (h : x = y) : bindV x H P C d ops rest env dst K = bindV y H P C d ops rest env dst K := by rw [h]
@[congr] theorem bindH_cg {x y : Option Heap} (h : x = y) : bindH x P C d ops rest env dst K = bindH y P C d ops rest env dst K := by rw [h]
@[congr] theorem callX_cg {f : FuncId} {x y : List AV} (h : x = y) : callX P C d f x H ops rest env dst K = callX P C d f y H ops rest env dst K := by rw [h]
end
end Go.Proofs.YtlfpjdcogkcjlaaGreatDoor.AL
/-
  Values: numbers, texts, structs, the objects' list, as equations; the rule for a function in these terms.
-/
namespace Go.Proofs.YtlfpjdcogkcjlaaGreatDoor.AL
open Go.RowKit
set_option linter.unusedVariables false
set_option linter.unusedSimpArgs false
variable {P : Program} {C : Base}

def szA (P : Program) (t : TypeId) : Option Nat := (P.info? t).map (·.size)
/-- A text by its bytes. -/
def S (l : List UInt8) : ByteArray := ⟨l.toArray⟩
theorem mkS (l : List UInt8) : ByteArray.mk (List.toArray l) = S l := rfl
theorem S_inj {a b : List UInt8} : S a = S b ↔ a = b := by simp [S]
theorem S_size (l : List UInt8) : (S l).size = l.length := rfl
theorem S_append (a b : List UInt8) : S a ++ S b = S (a ++ b) := by
  apply ByteArray.ext; simp [S]
theorem S_toList (l : List UInt8) : (S l).toList = l := by simp [S, ByteArray.toList_mk]
theorem S_data (l : List UInt8) : (S l).data.toList = l := rfl
theorem S_extract (l : List UInt8) (i j : Nat) : (S l).extract i j = S ((l.take j).drop i) := by
  apply ByteArray.ext; simp [S, List.drop_take]
abbrev vI (n : Int) : AV := .val (.int .i64 n)
abbrev vB (b : Bool) : AV := .val (.bool b)
abbrev vS (l : List UInt8) : AV := .val (.string (S l))

theorem wI64 {n : Int} (h : -9223372036854775808 ≤ n ∧ n ≤ 9223372036854775807) : IntKind.wrap .i64 n = n := by
  obtain ⟨h0, h1⟩ := h
  have hb : (IntKind.i64).bits = 64 := rfl
  have hs : (IntKind.i64).signed = true := rfl
  unfold IntKind.wrap
  rw [hb, hs]
  simp only [Bool.true_and, decide_eq_true_eq]
  split <;> omega
theorem wU8 {n : Int} (h : 0 ≤ n ∧ n ≤ 255) : IntKind.wrap .u8 n = n := by
  obtain ⟨h0, h1⟩ := h
  have hb : (IntKind.u8).bits = 8 := rfl
  have hs : (IntKind.u8).signed = false := rfl
  unfold IntKind.wrap
  rw [hb, hs]
  simp only [Bool.false_and, Bool.false_eq_true, if_false]
  omega

section
variable {t : TypeId} {xo yo : Operand} {k : IntKind} {a b : Int} {p q : Bool} {l l' : List UInt8}
theorem bin_add : binA P .add t xo yo (.val (.int k a)) (.val (.int k b)) = some (.val (.int k (k.wrap (a + b)))) := by simp [binA, plain, pureRun, eqGuard, binOp, Op.intArith, bind, Sem.bind, pure]
theorem bin_sub : binA P .sub t xo yo (.val (.int k a)) (.val (.int k b)) = some (.val (.int k (k.wrap (a - b)))) := by simp [binA, plain, pureRun, eqGuard, binOp, Op.intArith, bind, Sem.bind, pure]
theorem bin_mul : binA P .mul t xo yo (.val (.int k a)) (.val (.int k b)) = some (.val (.int k (k.wrap (a * b)))) := by simp [binA, plain, pureRun, eqGuard, binOp, Op.intArith, bind, Sem.bind, pure]
theorem bin_quo : binA P .quo t xo yo (.val (.int k a)) (.val (.int k b)) = if b ≠ 0 then some (.val (.int k (k.wrap (a.tdiv b)))) else none := by
  by_cases h : b = 0 <;> simp [runtimePanic, program, goPanic, Sem.halt, h, binA, plain, pureRun, eqGuard, binOp, Op.intDiv, bind, Sem.bind, pure]
theorem bin_rem : binA P .rem t xo yo (.val (.int k a)) (.val (.int k b)) = if b ≠ 0 then some (.val (.int k (a.tmod b))) else none := by
  by_cases h : b = 0 <;> simp [runtimePanic, program, goPanic, Sem.halt, h, binA, plain, pureRun, eqGuard, binOp, Op.intDiv, bind, Sem.bind, pure]
theorem bin_eql : binA P .eql t xo yo (.val (.int k a)) (.val (.int k b)) = some (vB (decide (a = b))) := by simp [binA, plain, pureRun, eqGuard, binOp, Op.intCmp, bind, Sem.bind, pure]; rfl
theorem bin_neq : binA P .neq t xo yo (.val (.int k a)) (.val (.int k b)) = some (vB (!decide (a = b))) := by simp [binA, plain, pureRun, eqGuard, binOp, Op.intCmp, bind, Sem.bind, pure]; rfl
theorem bin_lss : binA P .lss t xo yo (.val (.int k a)) (.val (.int k b)) = some (vB (decide (a < b))) := by simp [binA, plain, pureRun, eqGuard, binOp, Op.intCmp, bind, Sem.bind, pure]
theorem bin_leq : binA P .leq t xo yo (.val (.int k a)) (.val (.int k b)) = some (vB (decide (a ≤ b))) := by simp [binA, plain, pureRun, eqGuard, binOp, Op.intCmp, bind, Sem.bind, pure]
theorem bin_gtr : binA P .gtr t xo yo (.val (.int k a)) (.val (.int k b)) = some (vB (decide (b < a))) := by simp [binA, plain, pureRun, eqGuard, binOp, Op.intCmp, bind, Sem.bind, pure]
theorem bin_geq : binA P .geq t xo yo (.val (.int k a)) (.val (.int k b)) = some (vB (decide (b ≤ a))) := by simp [binA, plain, pureRun, eqGuard, binOp, Op.intCmp, bind, Sem.bind, pure]
theorem bin_cat : binA P .add t xo yo (vS l) (vS l') = if l.length + l'.length ≤ 9223372036854775807 then some (vS (l ++ l')) else none := by
  have hm : IntKind.i64.max = 9223372036854775807 := rfl
  by_cases h : l.length + l'.length ≤ 9223372036854775807
  · have : ¬ (((S l).size + (S l').size : Nat) : Int) > IntKind.i64.max := by rw [hm, S_size, S_size]; omega
    simp only [binA, plain, eqGuard, binOp, Op.stringOp, if_neg this, S_append, if_pos h]
    rfl
  · have : (((S l).size + (S l').size : Nat) : Int) > IntKind.i64.max := by rw [hm, S_size, S_size]; omega
    simp only [binA, plain, eqGuard, binOp, Op.stringOp, if_pos this, if_neg h]
    rfl
theorem bin_seql : binA P .eql t xo yo (vS l) (vS l') = some (vB (decide (l = l'))) := by
  simp only [binA, plain, eqGuard, binOp, Op.stringOp, S_toList]
  show some (AV.val (.bool (l == l'))) = _
  have : (l == l') = decide (l = l') := by by_cases h : l = l' <;> simp [h]
  rw [this]
theorem bin_sneq : binA P .neq t xo yo (vS l) (vS l') = some (vB (!decide (l = l'))) := by
  simp only [binA, plain, eqGuard, binOp, Op.stringOp, S_toList]
  show some (AV.val (.bool (!(l == l')))) = _
  have : (l == l') = decide (l = l') := by by_cases h : l = l' <;> simp [h]
  rw [this]
theorem un_not : unV P .not (vB p) = some (vB (!p)) := by simp [unV, plain, pureRun, Op.unary, pure]
theorem un_neg : unV P .neg (.val (.int k a)) = some (.val (.int k (k.wrap (0 - a)))) := by simp [unV, plain, pureRun, Op.unary, Op.intArith, pure]
def isIfc : Option TypeDesc → Bool
  | some (.interface _) => true
  | _ => false
theorem isIfc_spec {u : Option TypeDesc} (h : isIfc u = true) : ∃ ms, u = some (.interface ms) := by
  unfold isIfc at h
  split at h
  · exact ⟨_, rfl⟩
  · cases h
def isPtr : Option TypeDesc → Bool
  | some (.pointer _) => true
  | _ => false
theorem isPtr_spec {u : Option TypeDesc} (h : isPtr u = true) : ∃ e, u = some (.pointer e) := by
  unfold isPtr at h
  split at h
  · exact ⟨_, rfl⟩
  · cases h
theorem bin_neq_ifc {t' : TypeId} (h : isIfc (P.underlying t) = true) : binA P .neq t xo yo (.ifc t' .any) (.val .nilIface) = some (vB true) := by
  obtain ⟨ms, h⟩ := isIfc_spec h
  simp only [binA, plain, Option.map_none, nilCmp, h]; rfl
theorem bin_eql_ifc {t' : TypeId} (h : isIfc (P.underlying t) = true) : binA P .eql t xo yo (.ifc t' .any) (.val .nilIface) = some (vB false) := by
  obtain ⟨ms, h⟩ := isIfc_spec h
  simp only [binA, plain, Option.map_none, nilCmp, h]
theorem pureRun_bind {α β : Type} (s : Sem α) (f : α → Sem β) : pureRun P (s >>= f) = (pureRun P s).bind fun a => pureRun P (f a) := by
  induction s with
  | pure a => rfl
  | program k ih => show pureRun P (Sem.program fun p => (k p).bind f) = _; simp only [pureRun]; exact ih P
  | _ => rfl
theorem pureRun_pure {α : Type} (a : α) : pureRun P (pure a : Sem α) = some a := rfl
theorem pureRun_underlying {u : TypeDesc} (h : P.underlying t = some u) : pureRun P (underlying t) = some u := by
  simp only [underlying, program, bind, Sem.bind, pureRun, h, pure]
theorem bin_neq_nn {c : Value} (h : isIfc (P.underlying t) = true) : binA P .neq t xo (.const c) (.val .nilIface) (.val .nilIface) = some (vB false) := by
  obtain ⟨ms, h⟩ := isIfc_spec h
  have e1 : pureRun P (eqGuard .neq t xo (.const c) .nilIface .nilIface) = some () := by
    unfold eqGuard
    cases xo <;> rfl
  have e2 : pureRun P (binOp .neq t .nilIface .nilIface) = some (.bool false) := by
    show pureRun P (Op.equal t .nilIface .nilIface >>= fun r => pure (Value.bool (!r))) = _
    rw [pureRun_bind]
    unfold Op.equal Op.maxDepth
    rw [Op.equalIn, pureRun_bind, pureRun_underlying h]
    rfl
  simp only [binA, plain, pureRun_bind, e1, e2, Option.bind_some, Option.map_some]
theorem bin_eql_nn {c : Value} (h : isIfc (P.underlying t) = true) : binA P .eql t xo (.const c) (.val .nilIface) (.val .nilIface) = some (vB true) := by
  obtain ⟨ms, h⟩ := isIfc_spec h
  have e1 : pureRun P (eqGuard .eql t xo (.const c) .nilIface .nilIface) = some () := by
    unfold eqGuard
    cases xo <;> rfl
  have e2 : pureRun P (binOp .eql t .nilIface .nilIface) = some (.bool true) := by
    show pureRun P (Op.equal t .nilIface .nilIface >>= fun r => pure (Value.bool r)) = _
    rw [pureRun_bind]
    unfold Op.equal Op.maxDepth
    rw [Op.equalIn, pureRun_bind, pureRun_underlying h]
    rfl
  simp only [binA, plain, pureRun_bind, e1, e2, Option.bind_some, Option.map_some]
theorem isIfc_true {ms : Array (String × TypeId)} : isIfc (some (.interface ms)) = true := rfl
theorem isPtr_true {e : TypeId} : isPtr (some (.pointer e)) = true := rfl
theorem bin_neq_ptr {o off : Nat} (h : isPtr (P.underlying t) = true) : binA P .neq t xo yo (.ptr o off) (.val (.pointer none)) = some (vB true) := by
  obtain ⟨ms, h⟩ := isPtr_spec h
  simp only [binA, plain, nilCmp, h]; rfl
theorem bin_eql_ptr {o off : Nat} (h : isPtr (P.underlying t) = true) : binA P .eql t xo yo (.ptr o off) (.val (.pointer none)) = some (vB false) := by
  obtain ⟨ms, h⟩ := isPtr_spec h
  simp only [binA, plain, nilCmp, h]
theorem bin_neq_pn {a : Value} (ha : a = .pointer none) (h : isPtr (P.underlying t) = true) : binA P .neq t xo yo (.val a) (.val (.pointer none)) = some (vB false) := by
  obtain ⟨ms, h⟩ := isPtr_spec h
  subst ha
  have e1 : pureRun P (eqGuard .neq t xo yo (.pointer none) (.pointer none)) = some () := rfl
  have e2 : pureRun P (binOp .neq t (.pointer none) (.pointer none)) = some (.bool false) := by
    show pureRun P (Op.equal t (.pointer none) (.pointer none) >>= fun r => pure (Value.bool (!r))) = _
    rw [pureRun_bind]
    unfold Op.equal Op.maxDepth
    rw [Op.equalIn, pureRun_bind, pureRun_underlying h]
    rfl
  simp only [binA, plain, pureRun_bind, e1, e2, Option.bind_some, Option.map_some]
def convK (u v : Option TypeDesc) (n : Int) : Option AV := match u, v with
  | some _, some (.int k) => some (.val (.int k (k.wrap n)))
  | _, _ => none
theorem pureRun_under {α : Type} {d : TypeId} {u : TypeDesc} (h : P.underlying d = some u) {f : TypeDesc → Sem α} : pureRun P (underlying d >>= f) = pureRun P (f u) := by
  show pureRun P (Sem.program fun p => Sem.bind (match p.underlying d with | some d => pure d | none => stuck "no such type") f) = _
  simp only [pureRun, h]
  rfl
theorem conv_int {s d : TypeId} {u : TypeDesc} {k' : IntKind} (hs : P.underlying s = some u) (hd : P.underlying d = some (.int k')) : convV P s d (.val (.int k a)) = some (.val (.int k' (k'.wrap a))) := by
  simp only [convV, plain, Option.bind_some, convert]
  rw [pureRun_under hs, pureRun_under hd]
  cases u <;> rfl
def lenK (u : Option TypeDesc) (x : AV) : Option AV := match u, x with
  | some .string, .val (.string s) => some (.val (.int .i64 s.size))
  | some (.slice _), .val (.slice none 0 0) => some (.val (.int .i64 0))
  | some (.slice _), .sl _ _ _ n _ => some (.val (.int .i64 n))
  | some (.array n _), _ => some (.val (.int .i64 n))
  | _, _ => none
theorem lenA_K {x : AV} : lenA P t x = lenK (P.underlying t) x := rfl
theorem lenK_str : lenK (some .string) (vS l) = some (vI l.length) := rfl
theorem lenK_nil {e : TypeId} : lenK (some (.slice e)) (.val (.slice none 0 0)) = some (vI 0) := rfl
theorem lenK_sl {e : TypeId} {own : Bool} {o off n st : Nat} : lenK (some (.slice e)) (.sl own o off n st) = some (vI n) := rfl
theorem lenK_array {e : TypeId} {n : Nat} {x : AV} : lenK (some (.array n e)) x = some (vI n) := by unfold lenK; split <;> simp_all
theorem pick_bool {c a b : Bool} : pickA (vB c) (vB a) (vB b) = some (vB (if c then a else b)) := by cases c <;> rfl
theorem pick_val {c : Bool} {a b : AV} : pickA (vB c) a b = some (if c then a else b) := rfl
end

theorem fieldV_ptr {s o off f : Nat} : fieldV P s (.ptr o off) f = (fo P s f).map fun k => .ptr o (off + k) := by unfold fieldV; cases fo P s f <;> rfl
def cellsK (x : Option AObj) : Option (List AV) := match x with
  | some (.ro cs) => some cs
  | some (.own _ cs) => some cs
  | _ => none
def loadK (x : Option (List AV)) (k : Option Kind) (off : Nat) : Option AV := match x, k with
  | some cs, some .one => cs[off]?
  | some cs, some (.many n) => if off + n ≤ cs.length then some (.agg ((cs.drop off).take n)) else none
  | _, _ => none
theorem loadV_ptr {t o off : Nat} {H : Heap} : loadV P t (.ptr o off) H = loadK (cellsK H[o]?) (kd P t) off := by
  unfold loadV loadA loadK
  show Option.map _ (match cellsK H[o]?, kd P t with | some cs, some .one => _ | some cs, some (.many n) => _ | _, _ => _) = _
  cases cellsK H[o]? with
  | none => rfl
  | some cs => cases kd P t with
    | none => rfl
    | some k => cases k with
      | one => simp only [Option.map_map]; cases cs[off]? <;> rfl
      | many n => simp only; split <;> rfl
theorem cellsK_ro {cs : List AV} : cellsK (some (.ro cs)) = some cs := rfl
theorem cellsK_own {e : TypeId} {cs : List AV} : cellsK (some (.own e cs)) = some cs := rfl
theorem loadK_one {cs : List AV} {off : Nat} : loadK (some cs) (some .one) off = cs[off]? := rfl
theorem loadK_many {cs : List AV} {off n : Nat} : loadK (some cs) (some (.many n)) off = if off + n ≤ cs.length then some (.agg ((cs.drop off).take n)) else none := rfl
def storeK (v : Option (List AV)) (x : Option AObj) (z : Option Nat) (o off : Nat) (H : Heap) : Option Heap := match v, x with
  | some l, some (.own e cs) => if z = some l.length ∧ off + l.length ≤ cs.length then some (H.set o (.own e (putCells cs off l))) else none
  | _, _ => none
theorem storeA_ptr {t o off : Nat} {v : AV} {H : Heap} : storeA P t (.ptr o off) v H = storeK (avCells v) H[o]? (szA P t) o off H := by
  unfold storeA storeK szA
  cases avCells v with
  | none => rfl
  | some l => cases h : H[o]? with
    | none => simp [h]
    | some x => cases x <;> simp [h]
theorem storeK_own {l cs : List AV} {e : TypeId} {n o off : Nat} {H : Heap} : storeK (some l) (some (.own e cs)) (some n) o off H = if n = l.length ∧ off + l.length ≤ cs.length then some (H.set o (.own e (putCells cs off l))) else none := by
  simp only [storeK, Option.some.injEq]
theorem allocA_some {zs : List Value} {e : TypeId} {H : Heap} : allocA (some zs) e H = if zs.all Value.oneCell' then some (.ptr H.length 0, H ++ [.own e (zs.map .val)]) else none := rfl

/-- The objects: those that came in, and those made since. -/
theorem heap_len {H l : Heap} : (H ++ l).length = H.length + l.length := List.length_append
theorem heap_get0 {H l : Heap} : (H ++ l)[H.length]? = l[0]? := by rw [List.getElem?_append_right (Nat.le_refl _), Nat.sub_self]
theorem heap_get {H l : Heap} {k : Nat} : (H ++ l)[H.length + k]? = l[k]? := by rw [List.getElem?_append_right (by omega)]; congr 1; omega
theorem heap_set0 {H l : Heap} {x : AObj} : (H ++ l).set H.length x = H ++ l.set 0 x := by rw [List.set_append_right _ _ (by omega), Nat.sub_self]
theorem heap_set {H l : Heap} {k : Nat} {x : AObj} : (H ++ l).set (H.length + k) x = H ++ l.set k x := by rw [List.set_append_right _ _ (by omega)]; congr 2; omega

def argsAt (e : Env) : Nat → List AV → Prop
  | _, [] => True
  | i, a :: l => get e i = a ∧ argsAt e (i + 1) l
theorem argsAt_app : ∀ (l pre suf : List AV), argsAt (pre ++ l ++ suf) pre.length l
  | [], _, _ => trivial
  | a :: l, pre, suf => ⟨by simp [get], by
    have h := argsAt_app l (pre ++ [a]) suf
    simpa using h⟩
def outK (P : Program) (cs : Option (List AV)) (R : AV → Heap → Prop) (h : Heap) : Prop := match cs with
  | some cs => R (packA cs) h
  | none => False
/-- The end of a function. -/
def Kfun (P : Program) (rs : List ResultVar) (R : AV → Heap → Prop) : Exit → Env → Heap → Prop := fun ex e h => (ex = .normal ∨ ex = .ret) ∧ outK P (resA P e h rs) R h
theorem Kfun_ret {rs : List ResultVar} {R : AV → Heap → Prop} {e : Env} {h : Heap} : Kfun P rs R .ret e h = outK P (resA P e h rs) R h := by simp [Kfun]
theorem Kfun_normal {rs : List ResultVar} {R : AV → Heap → Prop} {e : Env} {h : Heap} : Kfun P rs R .normal e h = outK P (resA P e h rs) R h := by simp [Kfun]
@[congr] theorem outK_cg {x y : Option (List AV)} {R : AV → Heap → Prop} {h : Heap} (hx : x = y) : outK P x R h = outK P y R h := by rw [hx]
theorem resA_nil {e : Env} {h : Heap} : resA P e h [] = some [] := rfl
theorem resA_tmp {e : Env} {h : Heap} {t : Nat} {r : List ResultVar} : resA P e h (.tmp t :: r) = (resA P e h r).map (get e t :: ·) := rfl
theorem resA_cell {e : Env} {h : Heap} {p t : Nat} {r : List ResultVar} : resA P e h (.cell p t :: r) = (loadV P t (get e p) h).bind fun c => (resA P e h r).map (c :: ·) := by
  show ((loadA P t (get e p) h).bind fun c => (resA P e h r).map (c.1 :: ·)) = _
  unfold loadV
  cases loadA P t (get e p) h <;> rfl
theorem outK_some {cs : List AV} {R : AV → Heap → Prop} {h : Heap} : outK P (some cs) R h = R (packA cs) h := _root_.id rfl
theorem packA_one {c : AV} : packA [c] = c := rfl
theorem packA_nil : packA [] = .tup [] := rfl
theorem packA_two {c d : AV} {l : List AV} : packA (c :: d :: l) = .tup (c :: d :: l) := rfl

/-- THE RULE FOR A FUNCTION. -/
theorem A_fun {f : FuncId} {fn : Func} {c : Code} {args : List AV} {H : Heap} {R : AV → Heap → Prop} {N : Nat} {rs : List ResultVar} (hf : P.funcs[f]? = some fn) (hb : fn.body = some c) (hN : fn.ntmps = N) (hrs : fn.results.toList = rs) (hn : (fn.name == "runtime.NumGoroutine") = false) (hok : okC C.nG c = true) (hl : args.length ≤ N)
    (h : ∀ e, len e = N → argsAt e 0 args → acode P C c (mk e []) H (Kfun P rs R)) : ACalls P C f args H R := by
  subst hN hrs
  refine A_enter hf hb hn hok ?_
  have h1 := h (args ++ List.replicate (fn.ntmps - args.length) (.val undef)) (by simp [len]; omega) (argsAt_app args [] _)
  have e : (Kfun P fn.results.toList R) = fun ex env' H' => (ex = .normal ∨ ex = .ret) ∧ ∃ cs, resA P env' H' fn.results.toList = some cs ∧ R (packA cs) H' := by
    funext ex e h
    unfold Kfun outK
    cases resA P e h fn.results.toList <;> simp
  rw [← e]
  exact h1

/-- The end of a loop's round. -/
def Kloop (I : Nat → Env → Heap → Prop) (n : Nat) (Q : Exit → Env → Heap → Prop) : Exit → Env → Heap → Prop := fun ex e h => match ex with
  | .normal => ∃ n', n' < n ∧ I n' e h
  | ex => Q ex e h
section
variable {I : Nat → Env → Heap → Prop} {n i : Nat} {Q : Exit → Env → Heap → Prop} {e : Env} {h : Heap}
theorem Kloop_normal : Kloop I n Q .normal e h = ∃ n', n' < n ∧ I n' e h := _root_.id rfl
theorem Kloop_exit : Kloop I n Q (.exit i) e h = Q (.exit i) e h := _root_.id rfl
theorem Kloop_ret : Kloop I n Q .ret e h = Q .ret e h := _root_.id rfl
end
/-- THE RULE FOR LOOPS: an invariant with a number that falls. -/
theorem A_while {b : Code} {Q : Exit → Env → Heap → Prop} {env : Env} {H : Heap} (n : Nat) (I : Nat → Env → Heap → Prop) (hok : okC C.nG b = true) (h0 : I n env H)
    (step : ∀ n e h, I n e h → acode P C b (mk e []) h (Kloop I n Q)) : AWp P C (.loop b) env H Q := by
  refine A_loop I hok (fun n env H h => ?_) h0
  have e : (Kloop I n Q) = fun ex e h => match ex with
      | .normal => ∃ n', n' < n ∧ I n' e h
      | ex => Q ex e h := by funext ex e h; cases ex <;> rfl
  have h2 := step n env H h
  rw [e] at h2
  exact h2
theorem aops_mono {d : Option (List Nat)} {ops : Array Oper} {K K' : Env → Heap → Prop} (hk : ∀ e h, K e h → K' e h) : ∀ {l : List Oper} {env : Env} {H : Heap}, aops P C d ops l env H K → aops P C d ops l env H K'
  | [], _, _, h => hk _ _ h
  | o :: rest, env, H, h => by
    unfold aops at h ⊢
    split at h
    · exact aops_mono hk h
    · split at h
      · split at h
        · unfold callK at h ⊢
          split at h
          · exact h.mono fun r H' h => aops_mono hk h
          · rcases h with ⟨r, H', h1, h2, h4, h3⟩ | ⟨h1, R, h2, h3, h4, h5⟩
            · exact .inl ⟨r, H', h1, h2, h4, aops_mono hk h3⟩
            · exact .inr ⟨h1, R, h2, h3, h4, fun r H' hr => aops_mono hk (h5 r H' hr)⟩
        · split at h
          · exact aops_mono hk h
          · exact h.elim
      · split at h
        · exact aops_mono hk h
        · exact h.elim
    · exact h.elim
/-- A part of the code by what holds behind it. -/
theorem acode_cut : ∀ {c : Code} {env : Env} {H : Heap} {Q Q' : Exit → Env → Heap → Prop}, acode P C c env H Q → (∀ ex e h, Q ex e h → Q' ex e h) → acode P C c env H Q'
  | .skip, _, _, _, _, h, hq => hq _ _ _ h
  | .region id ops draw, env, H, Q, Q', h, hq => by
    unfold acode at h ⊢
    split
    · rename_i hd
      rw [if_pos hd] at h
      rcases h with ⟨h1, q, h2, h3⟩ | h
      · exact .inl ⟨h1, q, h2, aops_mono (fun e h => hq _ e h) h3⟩
      · exact .inr (h.mono hq)
    · rename_i hd
      rw [if_neg hd] at h
      exact aops_mono (fun e h => hq _ e h) h
  | .seq a b, env, H, Q, Q', h, hq => by
    rw [acode_seq] at h ⊢
    refine acode_cut h fun ex e h' hk => ?_
    cases ex with
    | normal => exact acode_cut hk hq
    | _ => exact hq _ _ _ hk
  | .cond c a b, env, H, Q, Q', h, hq => by
    unfold acode at h ⊢
    split at h
    · split at h
      · rw [if_pos ‹_›]; exact acode_cut h hq
      · rw [if_neg ‹_›]; exact acode_cut h hq
    · exact h.elim
  | .block id b, env, H, Q, Q', h, hq => by
    rw [acode_block] at h ⊢
    refine acode_cut h fun ex e h' hk => ?_
    cases ex with
    | exit i =>
      show if i = id then _ else _
      have hk' : if i = id then Q .normal e h' else Q (.exit i) e h' := hk
      split
      · rw [if_pos ‹_›] at hk'; exact hq _ _ _ hk'
      · rw [if_neg ‹_›] at hk'; exact hq _ _ _ hk'
    | _ => exact hq _ _ _ hk
  | .exit id, _, _, _, _, h, hq => hq _ _ _ h
  | .ret, _, _, _, _, h, hq => hq _ _ _ h
  | .loop b, _, _, _, _, h, hq => AWp.mono h hq
  | .rangeFunc .., _, _, _, _, h, _ => h.elim
  | .scope _, _, _, _, _, h, _ => h.elim
  | .label _, _, _, _, _, h, _ => h.elim
  | .goto _, _, _, _, _, h, _ => h.elim
  | .refuse _, _, _, _, _, h, _ => h.elim
/-- The end of a way that meets the other one. -/
def Kjoin (J : Env → Heap → Prop) (Q : Exit → Env → Heap → Prop) : Exit → Env → Heap → Prop := fun ex e h => match ex with
  | .normal => J e h
  | ex => Q ex e h
section
variable {J : Env → Heap → Prop} {i : Nat} {Q : Exit → Env → Heap → Prop} {e : Env} {h : Heap}
theorem Kjoin_normal : Kjoin J Q .normal e h = J e h := _root_.id rfl
theorem Kjoin_exit : Kjoin J Q (.exit i) e h = Q (.exit i) e h := _root_.id rfl
theorem Kjoin_ret : Kjoin J Q .ret e h = Q .ret e h := _root_.id rfl
end
/-- A part of the code by what holds behind it. -/
theorem acode_join {c : Code} {env : Env} {H : Heap} {Q : Exit → Env → Heap → Prop} (J : Env → Heap → Prop) (h1 : acode P C c env H (Kjoin J Q)) (h2 : ∀ e h, J e h → Q .normal (mk e []) h) : acode P C c env H Q :=
  acode_cut h1 fun ex e h hk => by cases ex <;> first | exact hk | exact h2 e h hk
/-- A parting whose ways come together again. -/
theorem cond_join {c : Bool} {a b : Code} {env : Env} {H : Heap} {Q : Exit → Env → Heap → Prop} (J : Env → Heap → Prop)
    (h1 : c = true → acode P C a env H (Kjoin J Q)) (h2 : c = false → acode P C b env H (Kjoin J Q)) (h3 : ∀ e h, J e h → Q .normal (mk e []) h) :
    condK (.val (.bool c)) P C a b env H Q :=
  condK_of (fun hc => acode_join J (h1 hc) h3) fun hc => acode_join J (h2 hc) h3

section
variable {d : Option (List Nat)} {ops : Array Oper} {rest : List Oper} {H H' : Heap} {K : Env → Heap → Prop} {r : AV} {e : Env} {l : List (Nat × AV)} {k : Nat} {c : Prop} [Decidable c]
/-- What an operation asks for. -/
theorem bindV_ite : bindV (if c then some r else none) H P C d ops rest (mk e l) (some k) K = (c ∧ aops P C d ops rest (mk e ((k, r) :: l)) H K) := by
  by_cases h : c <;> simp [h, bindV, setD_some]
theorem bindK_ite : bindK (if c then some (r, H') else none) P C d ops rest (mk e l) (some k) K = (c ∧ aops P C d ops rest (mk e ((k, r) :: l)) H' K) := by
  by_cases h : c <;> simp [h, bindK, setD_some]
theorem bindH_ite {env : Env} : bindH (if c then some H' else none) P C d ops rest env none K = (c ∧ aops P C d ops rest env H' K) := by
  by_cases h : c <;> simp [h, bindH, setD_none]
end
def slotK (x : Option (TypeId × Nat × Nat × List Value)) (o off len st : Nat) (n : Int) : Option AV := match x with
  | some (_, st', _, _) => if 0 ≤ n ∧ n < len ∧ st' = st then some (.ptr o (off + n.toNat * st)) else none
  | none => none
theorem slotV_sl {t : TypeId} {own : Bool} {o off len st : Nat} {k : IntKind} {n : Int} : slotV P t (.sl own o off len st) (.val (.int k n)) = slotK (el P t) o off len st n := by
  unfold slotV indexAddrA slotK
  cases el P t with
  | none => rfl
  | some x => simp only; split <;> rfl
def slotR (x : Option (Nat × Nat)) (o off : Nat) (n : Int) : Option AV := match x with
  | some (len, st) => if 0 ≤ n ∧ n < len then some (.ptr o (off + n.toNat * st)) else none
  | none => none
theorem slotV_ptr {t : TypeId} {o off : Nat} {k : IntKind} {n : Int} : slotV P t (.ptr o off) (.val (.int k n)) = slotR (ar P t) o off n := by
  unfold slotV indexAddrA slotR
  cases ar P t with
  | none => rfl
  | some x => simp only; split <;> rfl
theorem slotR_some {len st o off : Nat} {n : Int} : slotR (some (len, st)) o off n = if 0 ≤ n ∧ n < len then some (.ptr o (off + n.toNat * st)) else none := rfl
theorem slotK_some {e st' b : Nat} {z : List Value} {o off len st : Nat} {n : Int} : slotK (some (e, st', b, z)) o off len st n = if 0 ≤ n ∧ n < len ∧ st' = st then some (.ptr o (off + n.toNat * st)) else none := rfl
def cutK (x : Option (TypeId × Nat × Nat × List Value)) (own : Bool) (o off st : Nat) (l h : Option Nat) (len : Nat) : Option AV := match x, l, h with
  | some (_, st', _, _), some l, some h => if l ≤ h ∧ h ≤ len ∧ st' = st then some (.sl own o (off + l * st) (h - l) st) else none
  | _, _, _ => none
theorem sliceV_sl {t : TypeId} {own : Bool} {o off len st : Nat} {lo hi : Option AV} : sliceV P t (.sl own o off len st) lo hi = cutK (el P t) own o off st (boundA 0 lo) (boundA len hi) len := by
  have : sliceA P t (.sl own o off len st) lo hi [] = (match el P t, boundA 0 lo, boundA len hi with
    | some (_, st', _, _), some l, some h => if l ≤ h ∧ h ≤ len ∧ st' = st then some (.sl own o (off + l * st) (h - l) st, []) else none
    | _, _, _ => none) := rfl
  unfold sliceV cutK
  rw [this]
  generalize el P t = x
  generalize boundA 0 lo = a
  generalize boundA len hi = b
  rcases x with _ | ⟨e, st', bb, z⟩
  · rfl
  · cases a with
    | none => rfl
    | some a => cases b with
      | none => rfl
      | some b => simp only; split <;> rfl
theorem cutK_some {e st' b : Nat} {z : List Value} {own : Bool} {o off len st l h : Nat} : cutK (some (e, st', b, z)) own o off st (some l) (some h) len = if l ≤ h ∧ h ≤ len ∧ st' = st then some (.sl own o (off + l * st) (h - l) st) else none := rfl
def cutS (u : Option TypeDesc) (s : List UInt8) (l h : Option Nat) : Option AV := match u, l, h with
  | some .string, some l, some h => if l ≤ h ∧ h ≤ s.length then some (vS ((s.take h).drop l)) else none
  | _, _, _ => none
theorem sliceV_str {t : TypeId} {s : List UInt8} {lo hi : Option AV} : sliceV P t (vS s) lo hi = cutS (P.underlying t) s (boundA 0 lo) (boundA s.length hi) := by
  have : sliceA P t (vS s) lo hi [] = (match P.underlying t, boundA 0 lo, boundA (S s).size hi with
    | some .string, some l, some h => if l ≤ h ∧ h ≤ (S s).size then some (.val (.string ((S s).extract l h)), []) else none
    | _, _, _ => none) := rfl
  unfold sliceV cutS
  rw [this, S_size]
  generalize P.underlying t = u
  generalize boundA 0 lo = a
  generalize boundA s.length hi = b
  cases u with
  | none => rfl
  | some u => cases a with
    | none => cases u <;> rfl
    | some a => cases b with
      | none => cases u <;> rfl
      | some b => cases u <;> first | rfl | (simp only [S_extract]; split <;> rfl)
theorem cutS_some {s : List UInt8} {l h : Nat} : cutS (some .string) s (some l) (some h) = if l ≤ h ∧ h ≤ s.length then some (vS ((s.take h).drop l)) else none := rfl
theorem bound_none {d : Nat} : boundA d none = some d := rfl
theorem bound_some {d : Nat} {k : IntKind} {i : Int} : boundA d (some (.val (.int k i))) = if 0 ≤ i then some i.toNat else none := rfl
def atS (u : Option TypeDesc) (s : List UInt8) (n : Int) : Option AV := match u with
  | some .string => if 0 ≤ n ∧ n < s.length then some (.val (.int .u8 ((s.getD n.toNat 0).toNat : Int))) else none
  | _ => none
theorem indexA_str {t : TypeId} {s : List UInt8} {k : IntKind} {n : Int} : indexA P t (vS s) (.val (.int k n)) = atS (P.underlying t) s n := by
  have : indexA P t (vS s) (.val (.int k n)) = (match P.underlying t with
    | some .string => if 0 ≤ n ∧ n < (S s).size then some (.val (.int .u8 (((S s).data.toList.getD n.toNat 0).toNat : Int))) else none
    | _ => none) := rfl
  rw [this, S_size, S_data]
  unfold atS
  cases P.underlying t with
  | none => rfl
  | some u => cases u <;> rfl
theorem atS_some {s : List UInt8} {n : Int} : atS (some .string) s n = if 0 ≤ n ∧ n < s.length then some (.val (.int .u8 ((s.getD n.toNat 0).toNat : Int))) else none := rfl
theorem one_val {v : Value} : AV.one (.val v) = v.oneCell' := rfl
theorem one_ptr {o off : Nat} : AV.one (.ptr o off) = true := rfl
theorem one_sl {own : Bool} {o off n st : Nat} : AV.one (.sl own o off n st) = true := rfl
theorem one_mp {o : Nat} : AV.one (.mp o) = true := rfl
theorem one_ifc {t : TypeId} {x : AV} : AV.one (.ifc t x) = true := rfl
theorem one_fn {f : Fn} {a c : List AV} : AV.one (.fn f a c) = true := rfl
theorem avCells_agg {l : List AV} : avCells (.agg l) = if l.all AV.one then some l else none := rfl
theorem avCells_one {c : AV} (h : c.one = true) : avCells c = some [c] := by
  cases c with
  | val v => simp only [AV.one] at h; simp [avCells, h]
  | agg _ => cases h
  | tup _ => cases h
  | any => cases h
  | _ => rfl
def valCells (v : Value) (b : Bool) : Option (List AV) := if b then some [.val v] else avCells (.val v)
theorem avCells_val {v : Value} : avCells (.val v) = valCells v v.oneCell' := by
  unfold valCells
  split
  · rename_i h; exact avCells_one (c := .val v) h
  · rfl
theorem valCells_true {v : Value} : valCells v true = some [.val v] := rfl
theorem valCells_agg {vs : List Value} : valCells (.agg (List.toArray vs)) false = if vs.all Value.oneCell' then some (vs.map .val) else none := rfl
theorem avCells_ptr {o off : Nat} : avCells (.ptr o off) = some [.ptr o off] := rfl
theorem avCells_sl {own : Bool} {o off n st : Nat} : avCells (.sl own o off n st) = some [.sl own o off n st] := rfl
theorem avCells_mp {o : Nat} : avCells (.mp o) = some [.mp o] := rfl
theorem avCells_ifc {t : TypeId} {x : AV} : avCells (.ifc t x) = some [.ifc t x] := rfl
theorem guardK_name {x : Option Bool} {P : Program} {C : Base} {d : Option (List Nat)} {ops : Array Oper} {o : Oper} {rest : List Oper} {env : Env} {H : Heap} {K : Env → Heap → Prop} (h : ∀ A : Array Oper, A = ops → guardK x P C d A o rest env H K) : guardK x P C d ops o rest env H K := h ops rfl
theorem app_cons {α : Type} {a : α} {l r : List α} : List.append (a :: l) r = a :: List.append l r := rfl
theorem app_nil {α : Type} {r : List α} : List.append [] r = r := rfl
theorem avCells_fn {f : Fn} {a c : List AV} : avCells (.fn f a c) = some [.fn f a c] := rfl
end Go.Proofs.YtlfpjdcogkcjlaaGreatDoor.AL
/-
  '==' of structs of two numbers.
-/
namespace Go.Proofs.YtlfpjdcogkcjlaaGreatDoor.AL
open Go.RowKit
set_option linter.unusedVariables false
set_option linter.unusedSimpArgs false
variable {P : Program} {C : Base}

theorem pureRun_program : pureRun P program = some P := rfl
theorem pureRun_ite {α : Type} {c : Prop} [Decidable c] {a b : Sem α} : pureRun P (if c then a else b) = if c then pureRun P a else pureRun P b := by split <;> rfl
theorem pr_struct (d : Nat) (t : TypeId) (fs : Array Field) (xs ys : Array Value) (ht : P.underlying t = some (.struct fs)) (hp : P.stoodInHeld t = false) :
    pureRun P (Op.equalIn (d + 1) t (.agg xs) (.agg ys)) = pureRun P (Op.eqFields d xs ys fs.toList) := by
  rw [Op.equalIn, pureRun_bind, pureRun_underlying ht]
  simp only [Option.bind_some, pureRun_bind, pureRun_program, hp, Bool.false_eq_true, if_false]
  rw [← Array.forIn_toList]
  generalize fs.toList = l
  clear ht
  induction l with
  | nil => rfl
  | cons f l ih =>
    simp only [List.forIn_cons, Op.eqFields, pureRun_bind, pureRun_ite]
    split
    · cases pureRun P (part f.type xs f.offset) with
      | none => rfl
      | some a =>
        simp only [Option.bind_some]
        cases pureRun P (part f.type ys f.offset) with
        | none => rfl
        | some b =>
          simp only [Option.bind_some]
          cases pureRun P (Op.equalIn d f.type a b) with
          | none => rfl
          | some r =>
            cases r
            · rfl
            · simp only [Option.bind_some, Bool.not_true, Bool.false_eq_true, if_false, pureRun_pure]
              exact ih
    · simp only [Option.bind_some, pureRun_pure]
      exact ih
def isI64 : Option TypeDesc → Bool
  | some (.int .i64) => true
  | _ => false
theorem isI64_spec {u : Option TypeDesc} (h : isI64 u = true) : u = some (.int .i64) := by
  unfold isI64 at h
  split at h
  · rfl
  · cases h
def eq2 (P : Program) (t : TypeId) : Bool := match P.underlying t with
  | some (.struct fs) => !P.stoodInHeld t && !P.eqGuardType P.depth t && (match fs.toList with
    | [f, g] => f.name != "_" && g.name != "_" && f.offset == 0 && g.offset == 1 && isI64 (P.underlying f.type) && isI64 (P.underlying g.type)
    | _ => false)
  | _ => false
theorem pr_part {u : TypeId} {k : IntKind} (h : P.underlying u = some (.int k)) {xs : Array Value} {n : Nat} {v : Value} (hv : xs[n]? = some v) : pureRun P (part u xs n) = some v := by
  unfold part isAgg
  simp only [pureRun_bind, pureRun_underlying h, Option.bind_some, hv]
  rfl
theorem pr_int {d : Nat} {u : TypeId} {k k' : IntKind} (h : P.underlying u = some (.int k')) {a b : Int} : pureRun P (Op.equalIn (d + 1) u (.int k a) (.int k b)) = some (a == b) := by
  rw [Op.equalIn, pureRun_bind, pureRun_underlying h]
  simp only [Option.bind_some, if_true]
  rfl
theorem eq2_run {t : TypeId} (h : eq2 P t = true) {a b c d : Int} {xo yo : Operand} : pureRun P (eqGuard .eql t xo yo (.agg #[.int .i64 a, .int .i64 b]) (.agg #[.int .i64 c, .int .i64 d])) = some () ∧ pureRun P (eqGuard .neq t xo yo (.agg #[.int .i64 a, .int .i64 b]) (.agg #[.int .i64 c, .int .i64 d])) = some () ∧ pureRun P (Op.equal t (.agg #[.int .i64 a, .int .i64 b]) (.agg #[.int .i64 c, .int .i64 d])) = some (decide (a = c) && decide (b = d)) := by
  unfold eq2 at h
  split at h
  · rename_i fs hu
    simp only [Bool.and_eq_true, Bool.not_eq_true'] at h
    obtain ⟨⟨h1, h2⟩, h3⟩ := h
    split at h3
    · rename_i f g hfs
      simp only [Bool.and_eq_true, bne_iff_ne, ne_eq, beq_iff_eq] at h3
      obtain ⟨⟨⟨⟨⟨n1, n2⟩, o1⟩, o2⟩, u1⟩, u2⟩ := h3
      have u1 := isI64_spec u1
      have u2 := isI64_spec u2
      refine ⟨?_, ?_, ?_⟩
      · unfold eqGuard
        simp only [Bool.not_true, Bool.false_eq_true, if_false, pureRun_bind, pureRun_program, Option.bind_some, pureRun_ite, h2, Bool.not_false, if_true]
        rfl
      · unfold eqGuard
        simp only [Bool.not_true, Bool.false_eq_true, if_false, pureRun_bind, pureRun_program, Option.bind_some, pureRun_ite, h2, Bool.not_false, if_true]
        rfl
      · unfold Op.equal Op.maxDepth
        rw [pr_struct _ _ fs _ _ hu h1, hfs]
        simp only [Op.eqFields, ne_eq, n1, n2, not_false_eq_true, if_true, pureRun_bind, o1, o2]
        rw [pr_part u1 (v := .int .i64 a) rfl, pr_part u1 (v := .int .i64 c) rfl]
        simp only [Option.bind_some]
        rw [pr_int u1]
        simp only [Option.bind_some, pureRun_ite, pureRun_bind]
        rw [pr_part u2 (v := .int .i64 b) rfl, pr_part u2 (v := .int .i64 d) rfl]
        simp only [Option.bind_some]
        rw [pr_int u2]
        by_cases e1 : a = c <;> by_cases e2 : b = d <;> simp [e1, e2, pureRun_pure]
    · cases h3
  · cases h
theorem bin_eql2 {t : TypeId} {xo yo : Operand} {a b c d : Int} (h : eq2 P t = true) : binA P .eql t xo yo (.agg [vI a, vI b]) (.agg [vI c, vI d]) = some (vB (decide (a = c) && decide (b = d))) := by
  obtain ⟨h1, _, h2⟩ := eq2_run h (a := a) (b := b) (c := c) (d := d) (xo := xo) (yo := yo)
  have hb : pureRun P (binOp .eql t (.agg #[.int .i64 a, .int .i64 b]) (.agg #[.int .i64 c, .int .i64 d])) = some (.bool (decide (a = c) && decide (b = d))) := by
    show pureRun P (Op.equal t _ _ >>= fun r => pure (Value.bool r)) = _
    rw [pureRun_bind, h2]; rfl
  simp only [binA, plain, plains, Option.bind_some, Option.map_some, pureRun_bind, h1, hb]
theorem bin_neq2 {t : TypeId} {xo yo : Operand} {a b c d : Int} (h : eq2 P t = true) : binA P .neq t xo yo (.agg [vI a, vI b]) (.agg [vI c, vI d]) = some (vB (!(decide (a = c) && decide (b = d)))) := by
  obtain ⟨_, h1, h2⟩ := eq2_run h (a := a) (b := b) (c := c) (d := d) (xo := xo) (yo := yo)
  have hb : pureRun P (binOp .neq t (.agg #[.int .i64 a, .int .i64 b]) (.agg #[.int .i64 c, .int .i64 d])) = some (.bool (!(decide (a = c) && decide (b = d)))) := by
    show pureRun P (Op.equal t _ _ >>= fun r => pure (Value.bool (!r))) = _
    rw [pureRun_bind, h2]; rfl
  simp only [binA, plain, plains, Option.bind_some, Option.map_some, pureRun_bind, h1, hb]
section
variable {d : Option (List Nat)} {ops : Array Oper} {rest : List Oper} {env : Env} {H : Heap} {K : Env → Heap → Prop} {dst : Option Nat}
/-- The rest of a list of operations by what holds behind it. -/
theorem callX_join (J : Env → Heap → Prop) {f : FuncId} {args : List AV} (h1 : callX P C d f args H ops rest env dst J) (h2 : ∀ e h, J e h → K (mk e []) h) : callX P C d f args H ops rest env dst K := by
  unfold callX callK at h1 ⊢
  cases d with
  | none => exact ACalls.mono h1 fun r H' hk => aops_mono (fun e h hj => h2 e h hj) hk
  | some q =>
    rcases h1 with ⟨r, H', a, b, c, hk⟩ | ⟨a, R, b, c, d, hk⟩
    · exact .inl ⟨r, H', a, b, c, aops_mono (fun e h hj => h2 e h hj) hk⟩
    · exact .inr ⟨a, R, b, c, d, fun r H' hr => aops_mono (fun e h hj => h2 e h hj) (hk r H' hr)⟩
theorem guardK_join (J : Env → Heap → Prop) {x : Option Bool} {o : Oper} (h1 : guardK x P C d ops o rest env H J) (h2 : ∀ e h, J e h → K (mk e []) h) : guardK x P C d ops o rest env H K := by
  unfold guardK at h1 ⊢
  split at h1
  · exact aops_mono (fun e h hj => h2 e h hj) h1
  · exact aops_mono (fun e h hj => h2 e h hj) h1
  · exact h1.elim
end
/-- max of two. -/
def maxV (P : Program) (ts : Array TypeId) (ty : TypeId) (x y : AV) : Option AV := (plains [x, y]).bind fun vs => (pureRun P (Builtin.max_ ts ty vs.toArray)).map .val
section
variable {d : Option (List Nat)} {ops : Array Oper} {rest : List Oper} {env : Env} {H : Heap} {K : Env → Heap → Prop} {dst : Option Nat} {ty : TypeId} {p : String} {af : Array Edge}
theorem aops_max {x y : Operand} {ts : Array TypeId} : aops P C d ops (⟨dst, .call ⟨.builtin .max, List.toArray [x, y], ts⟩, ty, p, af, none⟩ :: rest) env H K = bindV (maxV P ts ty (opA env x) (opA env y)) H P C d ops rest env dst K := by
  refine (aops_of rfl (by intro c h; cases h; rfl)).trans (ofV ?_)
  have e : builtinA P .max ty [opA env x, opA env y] ts H = (plains [opA env x, opA env y]).bind fun vs => (pureRun P (Builtin.max_ ts ty vs.toArray)).map fun v => (AV.val v, H) := by
    unfold builtinA
    split <;> simp_all
  show builtinA P .max ty [opA env x, opA env y] ts H = _
  rw [e]
  unfold maxV
  cases plains [opA env x, opA env y] with
  | none => rfl
  | some vs =>
    simp only [Option.bind_some]
    cases pureRun P (Builtin.max_ ts ty vs.toArray) <;> rfl
theorem max_int {ts : Array TypeId} {k : IntKind} {a b : Int} : maxV P ts ty (.val (.int k a)) (.val (.int k b)) = some (.val (.int k (max a b))) := by
  unfold maxV
  simp only [plains, plain, Option.bind_some, Option.map_some]
  have : pureRun P (Builtin.max_ ts ty (List.toArray [.int k a, .int k b])) = some (.int k (max a b)) := by
    show some (Value.int k (if b > a then b else a)) = _
    congr 2
    split <;> omega
  rw [this]; rfl
end
end Go.Proofs.YtlfpjdcogkcjlaaGreatDoor.AL
