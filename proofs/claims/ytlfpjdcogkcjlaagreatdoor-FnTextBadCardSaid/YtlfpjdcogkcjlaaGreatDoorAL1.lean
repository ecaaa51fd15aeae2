/-
  A program logic over abstract states: values without addresses, objects by number; what an abstract state says of a machine's world.
-/
import Derived.WalkKit
import Derived.Below
import Derived.Laws.OwnMore
import Derived.Maps.AppendAt
import Derived.Deep.Draws
namespace Go.Proofs.YtlfpjdcogkcjlaaGreatDoor.AL
open Go.RowKit
set_option linter.unusedVariables false
set_option linter.unusedSimpArgs false

/-- A slot's value: a plain one, or one that leads to an object. -/
inductive AV where
  | val (v : Value)
  | ptr (o off : Nat)
  | sl (own : Bool) (o off len st : Nat)
  | mp (o : Nat)
  | ifc (t : TypeId) (x : AV)
  | fn (f : Fn) (first caps : List AV)
  | agg (l : List AV)
  | tup (l : List AV)
  | any
  deriving Inhabited
abbrev Env := List AV
/-- An object: cells that came in, cells of the call's own, or what is gone. -/
inductive AObj where
  | ro (cs : List AV)
  | own (e : TypeId) (cs : List AV)
  | map (es : List (ByteArray × AV))
  | gone
  deriving Inhabited
abbrev Heap := List AObj
/-- Where the objects lie: block and first cell. -/
abbrev Places := List (Nat × Nat)

def Room (w : World) (b n : Nat) : Prop := ∃ arr e fr, w.heap[b]? = some (.cells arr e fr) ∧ n ≤ arr.size
def Full (w : World) (b n : Nat) : Prop := ∃ arr e fr, w.heap[b]? = some (.cells arr e fr) ∧ n = arr.size

mutual
/-- What a value of the machine's is. -/
def rel (m : Places) (w : World) : AV → Value → Prop
  | .val v, x => x = v
  | .ptr o off, x => ∃ b, m[o]? = some b ∧ x = .pointer (some ⟨b.1, b.2 + off, none⟩)
  | .sl own o off len st, x => ∃ b a cap, m[o]? = some b ∧ x = .slice (some a) len cap ∧ len ≤ cap ∧ cap ≤ 9223372036854775807 ∧ (0 < cap → a = ⟨b.1, b.2 + off, none⟩ ∧ Room w b.1 (b.2 + off + cap * st)) ∧ (own = true → (cap = 0 ∧ 0 < off) ∨ (a = ⟨b.1, b.2 + off, none⟩ ∧ Full w b.1 (b.2 + off + cap * st)))
  | .mp o, x => ∃ b, m[o]? = some b ∧ x = .map (some b.1)
  | .ifc t c, x => ∃ v, x = .iface t v ∧ rel m w c v
  | .fn f a c, x => ∃ vs us, x = .func f vs us ∧ rels m w a vs.toList ∧ rels m w c us.toList
  | .agg l, x => ∃ vs, x = .agg vs ∧ rels m w l vs.toList
  | .tup l, x => ∃ vs, x = .tuple vs ∧ rels m w l vs.toList
  | .any, _ => True
def rels (m : Places) (w : World) : List AV → List Value → Prop
  | [], [] => True
  | c :: l, v :: vs => rel m w c v ∧ rels m w l vs
  | _, _ => False
end

/-- Blocks of cells keep their sizes and types. -/
def Szs (w w' : World) : Prop := ∀ (b : Nat) (arr : Array Value) (e : TypeId) (fr : Nat × Nat), w.heap[b]? = some (.cells arr e fr) → ∃ arr' : Array Value, w'.heap[b]? = some (.cells arr' e fr) ∧ arr'.size = arr.size
theorem Szs.refl (w : World) : Szs w w := fun b arr e fr h => ⟨arr, h, rfl⟩
theorem Szs.trans {a b c : World} (h : Szs a b) (k : Szs b c) : Szs a c := fun x arr e fr hx => by
  obtain ⟨arr', h1, h2⟩ := h x arr e fr hx
  obtain ⟨arr2, h3, h4⟩ := k x arr' e fr h1
  exact ⟨arr2, h3, h4.trans h2⟩
theorem Room.szs {w w' : World} {b n : Nat} (h : Room w b n) (hs : Szs w w') : Room w' b n := by
  obtain ⟨arr, e, fr, h1, h2⟩ := h
  obtain ⟨arr', h3, h4⟩ := hs _ _ _ _ h1
  exact ⟨arr', e, fr, h3, by omega⟩
theorem Full.szs {w w' : World} {b n : Nat} (h : Full w b n) (hs : Szs w w') : Full w' b n := by
  obtain ⟨arr, e, fr, h1, h2⟩ := h
  obtain ⟨arr', h3, h4⟩ := hs _ _ _ _ h1
  exact ⟨arr', e, fr, h3, by omega⟩

theorem get_pre {m m' : Places} (h : m <+: m') {o : Nat} {b : Nat × Nat} (hb : m[o]? = some b) : m'[o]? = some b := by
  obtain ⟨t, rfl⟩ := h
  rw [List.getElem?_append_left (by exact (List.getElem?_eq_some_iff.1 hb).1)]
  exact hb

mutual
theorem rel_more {m m' : Places} {w w' : World} (hm : m <+: m') (hs : Szs w w') : ∀ {c : AV} {v : Value}, rel m w c v → rel m' w' c v
  | .val _, _, h => h
  | .ptr .., _, ⟨b, h1, h2⟩ => ⟨b, get_pre hm h1, h2⟩
  | .sl .., _, ⟨b, a, cap, h1, h2, h3, h4, h5, h6⟩ => ⟨b, a, cap, get_pre hm h1, h2, h3, h4, fun hc => ⟨(h5 hc).1, (h5 hc).2.szs hs⟩, fun ho => (h6 ho).imp id fun h => ⟨h.1, h.2.szs hs⟩⟩
  | .mp _, _, ⟨b, h1, h2⟩ => ⟨b, get_pre hm h1, h2⟩
  | .ifc _ c, _, ⟨v, h1, h2⟩ => ⟨v, h1, rel_more hm hs h2⟩
  | .fn _ a c, _, ⟨vs, us, h1, h2, h3⟩ => ⟨vs, us, h1, rels_more hm hs h2, rels_more hm hs h3⟩
  | .agg l, _, ⟨vs, h1, h2⟩ => ⟨vs, h1, rels_more hm hs h2⟩
  | .tup l, _, ⟨vs, h1, h2⟩ => ⟨vs, h1, rels_more hm hs h2⟩
  | .any, _, _ => trivial
theorem rels_more {m m' : Places} {w w' : World} (hm : m <+: m') (hs : Szs w w') : ∀ {l : List AV} {vs : List Value}, rels m w l vs → rels m' w' l vs
  | [], [], _ => trivial
  | c :: l, v :: vs, h => ⟨rel_more hm hs h.1, rels_more hm hs h.2⟩
  | [], _ :: _, h => h.elim
  | _ :: _, [], h => h.elim
end

theorem rels_length {m : Places} {w : World} : ∀ {l : List AV} {vs : List Value}, rels m w l vs → l.length = vs.length
  | [], [], _ => rfl
  | c :: l, v :: vs, h => by simp [rels_length h.2]
  | [], _ :: _, h => h.elim
  | _ :: _, [], h => h.elim
theorem rels_get {m : Places} {w : World} : ∀ {l : List AV} {vs : List Value}, rels m w l vs → ∀ (i : Nat) c, l[i]? = some c → ∃ v, vs[i]? = some v ∧ rel m w c v
  | [], [], _, i, c, hi => by simp at hi
  | c :: l, v :: vs, h, 0, c', hi => ⟨v, rfl, by simp at hi; subst hi; exact h.1⟩
  | c :: l, v :: vs, h, i + 1, c', hi => by simpa using rels_get h.2 i c' (by simpa using hi)
  | [], _ :: _, h, _, _, _ => h.elim
  | _ :: _, [], h, _, _, _ => h.elim
theorem rels_of_get {m : Places} {w : World} : ∀ {l : List AV} {vs : List Value}, l.length = vs.length → (∀ (i : Nat) c v, l[i]? = some c → vs[i]? = some v → rel m w c v) → rels m w l vs
  | [], [], _, _ => trivial
  | c :: l, v :: vs, hl, h => ⟨h 0 c v rfl rfl, rels_of_get (by simpa using hl) fun i c' v' h1 h2 => h (i + 1) c' v' (by simpa using h1) (by simpa using h2)⟩
  | [], _ :: _, hl, _ => by simp at hl
  | _ :: _, [], hl, _ => by simp at hl
theorem rels_append {m : Places} {w : World} {l l' : List AV} {vs vs' : List Value} (h : rels m w l vs) (h' : rels m w l' vs') : rels m w (l ++ l') (vs ++ vs') := by
  induction l generalizing vs with
  | nil => cases vs with
    | nil => exact h'
    | cons _ _ => exact h.elim
  | cons c l ih => cases vs with
    | nil => exact h.elim
    | cons v vs => exact ⟨h.1, ih h.2⟩

/-- Where the call began: what lies below block B is as it was in w0. -/
structure Base where
  B : Nat
  w0 : World
  /-- the package-level variables: their blocks are the first ones, object g is variable g -/
  nG : Nat

def relO (C : Base) (m : Places) (w : World) (b : Nat × Nat) : AObj → Prop
  | .ro cs => b.1 < C.B ∧ ∀ (j : Nat) c, cs[j]? = some c → ∃ v, w.cell? ⟨b.1, b.2 + j, none⟩ = some v ∧ rel m w c v
  | .own e cs => (C.B ≤ b.1 ∧ b.2 = 0) ∧ ∃ arr, w.heap[b.1]? = some (.cells arr e (0, 0)) ∧ b.2 + cs.length ≤ arr.size ∧ ∀ (j : Nat) c, cs[j]? = some c → ∃ v, arr[b.2 + j]? = some v ∧ rel m w c v
  | .map es => C.B ≤ b.1 ∧ ∃ ens clock, w.heap[b.1]? = some (.map ens clock) ∧ ens.size = es.length ∧ ∀ (j : Nat) k c, es[j]? = some (k, c) → ∃ en, ens[j]? = some en ∧ en.key = .string k ∧ rel m w c en.val
  | .gone => True
def AObj.mine : AObj → Bool
  | .own .. => true
  | .map .. => true
  | _ => false

structure RepH (C : Base) (m : Places) (w : World) (H : Heap) : Prop where
  below : Below C.B C.w0 w
  size : C.B ≤ w.heap.size
  len : m.length = H.length
  glob : ∀ g, g < C.nG → m[g]? = some (g, 0)
  obj : ∀ (o : Nat) x b, H[o]? = some x → m[o]? = some b → relO C m w b x
  apart : ∀ (o o' : Nat) x x' b b', o ≠ o' → H[o]? = some x → H[o']? = some x' → m[o]? = some b → m[o']? = some b' → x.mine = true → x'.mine = true → b.1 ≠ b'.1

structure RepE (m : Places) (w : World) (env : Env) (a : Act) : Prop where
  defers : a.defers = []
  slots : rels m w env a.tmps.toList

/-- What a step's end is to the caller: further places, blocks that keep their sizes. -/
structure Fwd (C : Base) (m : Places) (w : World) (m' : Places) (w' : World) (H' : Heap) : Prop where
  pre : m <+: m'
  szs : Szs w w'
  rep : RepH C m' w' H'

theorem RepE.more {m m' : Places} {w w' : World} {env : Env} {a : Act} (h : RepE m w env a) (hm : m <+: m') (hs : Szs w w') : RepE m' w' env a := ⟨h.defers, rels_more hm hs h.slots⟩

theorem RepE.get {m : Places} {w : World} {env : Env} {a : Act} (h : RepE m w env a) (i : Nat) : rel m w (env.getD i .any) (a.tmps.getD i undef) := by
  rcases Nat.lt_or_ge i env.length with hi | hi
  · obtain ⟨v, h1, h2⟩ := rels_get h.slots i env[i] (List.getElem?_eq_getElem hi)
    rw [List.getD_eq_getElem?_getD, List.getElem?_eq_getElem hi]
    have : a.tmps.getD i undef = v := by
      rw [Array.getD_eq_getD_getElem?, ← Array.getElem?_toList, h1]; rfl
    rw [this]; exact h2
  · rw [List.getD_eq_getElem?_getD, List.getElem?_eq_none hi]; trivial

theorem rels_set {m : Places} {w : World} {l : List AV} {vs : List Value} (h : rels m w l vs) (d : Nat) {c : AV} {v : Value} (hc : rel m w c v) : rels m w (l.set d c) (vs.set d v) := by
  induction l generalizing vs d with
  | nil => cases vs with
    | nil => trivial
    | cons _ _ => exact h.elim
  | cons c' l ih => cases vs with
    | nil => exact h.elim
    | cons v' vs => cases d with
      | zero => exact ⟨hc, h.2⟩
      | succ d => exact ⟨h.1, ih h.2 d⟩

def setD (env : Env) (d : Option Nat) (c : AV) : Env := match d with | some d => env.set d c | none => env
theorem RepE.put {m : Places} {w : World} {env : Env} {a : Act} (h : RepE m w env a) (d : Option Nat) {c : AV} {v : Value} (hc : rel m w c v) : RepE m w (setD env d c) (a.put d v) := by
  cases d with
  | none => exact h
  | some d => exact ⟨h.defers, by simpa [Act.put, setD] using rels_set h.slots d hc⟩

end Go.Proofs.YtlfpjdcogkcjlaaGreatDoor.AL
