/-
  Structs, literals, slices, comparisons with nil, maps with string keys: over abstract states as in the machine.
-/
import Derived.Test.YtlfpjdcogkcjlaaGreatDoorAL3
namespace Go.Proofs.YtlfpjdcogkcjlaaGreatDoor.AL
open Go.RowKit
set_option linter.unusedVariables false
set_option linter.unusedSimpArgs false
variable {P : Program} {C : Base}

/-! ### cells filled in -/
theorem foldl_put : ∀ (l : List Value) (off k : Nat) (arr : Array Value), ∃ arr' : Array Value, (l.zipIdx k).foldl (fun cs (c : Value × Nat) => cs.setIfInBounds (off + c.2) c.1) arr = arr' ∧ arr'.size = arr.size ∧
    ∀ j, arr'[j]? = if off + k ≤ j ∧ j < off + k + l.length ∧ j < arr.size then l[j - (off + k)]? else arr[j]?
  | [], off, k, arr => ⟨arr, rfl, rfl, fun j => by rw [if_neg (by simp; omega)]⟩
  | v :: l, off, k, arr => by
    obtain ⟨arr', h1, h2, h3⟩ := foldl_put l off (k + 1) (arr.setIfInBounds (off + k) v)
    refine ⟨arr', by simpa using h1, by simpa using h2, fun j => ?_⟩
    rw [h3 j]
    simp only [Array.size_setIfInBounds, List.length_cons]
    by_cases hj : j = off + k
    · subst hj
      rw [if_neg (by omega)]
      by_cases hs : off + k < arr.size
      · rw [if_pos (by omega)]; simp [hs]
      · rw [if_neg (by omega)]
        rw [Array.getElem?_eq_none (by simp; omega), Array.getElem?_eq_none (by omega)]
    · by_cases h7 : off + (k + 1) ≤ j ∧ j < off + (k + 1) + l.length ∧ j < arr.size
      · rw [if_pos h7, if_pos (by omega), show j - (off + k) = (j - (off + (k + 1))) + 1 by omega]
        simp
      · rw [if_neg h7, if_neg (by omega), Array.getElem?_setIfInBounds_ne (by omega)]

def fillA (place : Nat → Option (Nat × Nat)) (cells : List AV) : List (Nat × List AV) → Option (List AV)
  | [] => some cells
  | (i, l) :: r => match place i with
    | none => none
    | some (off, size) => if l.length = size ∧ off + l.length ≤ cells.length then fillA place (putCells cells off l) r else none

/-- parts of a literal, value by value -/
inductive PartsRel (m : Places) (w : World) : List (Nat × List AV) → List (Nat × Value) → Prop where
  | nil : PartsRel m w [] []
  | cons {i : Nat} {l : List AV} {v : Value} {r : List (Nat × List AV)} {s : List (Nat × Value)} (h : rels m w l v.cells.toList) (k : PartsRel m w r s) : PartsRel m w ((i, l) :: r) ((i, v) :: s)

theorem fillA_fill {m : Places} {w : World} {place : Nat → Option (Nat × Nat)} {r : List (Nat × List AV)} {s : List (Nat × Value)} (h : PartsRel m w r s) :
    ∀ {cells : List AV} {vs : Array Value} {cs : List AV}, rels m w cells vs.toList → fillA place cells r = some cs → ∃ us, Instr.fill place vs s = some us ∧ rels m w cs us.toList := by
  induction h with
  | nil => intro cells vs cs hc hf; simp only [fillA, Option.some.injEq] at hf; subst hf; exact ⟨vs, rfl, hc⟩
  | @cons i l v r s hl hk ih =>
    intro cells vs cs hc hf
    simp only [fillA] at hf
    split at hf
    · cases hf
    · rename_i off size hp
      split at hf
      · rename_i hsz
        have h1 : l.length = v.cells.size := by simpa using rels_length hl
        have h2 : cells.length = vs.size := by simpa using rels_length hc
        obtain ⟨arr', h3, h4, h5⟩ := foldl_put v.cells.toList off 0 vs
        have h6 : rels m w (putCells cells off l) arr'.toList := by
          refine rels_of_get (by rw [putCells_length _ _ _ hsz.2]; simp; omega) fun j c u hj hu => ?_
          rw [putCells_get _ _ _ hsz.2] at hj
          rw [Array.getElem?_toList, h5] at hu
          split at hj
          · rename_i hlt
            rw [if_pos (by simp; omega), show j - (off + 0) = j - off by omega] at hu
            obtain ⟨x, hx, hr⟩ := rels_get hl _ _ hj
            rw [hu] at hx; obtain rfl := Option.some.inj hx; exact hr
          · rename_i hlt
            rw [if_neg (by simp; omega)] at hu
            obtain ⟨x, hx, hr⟩ := rels_get hc _ _ hj
            rw [Array.getElem?_toList, hu] at hx; obtain rfl := Option.some.inj hx; exact hr
        obtain ⟨us, h7, h8⟩ := ih h6 hf
        refine ⟨us, ?_, h8⟩
        have h9 : (v.cells.zipIdx.foldl (fun cs (c : Value × Nat) => cs.setIfInBounds (off + c.2) c.1) vs) = arr' := by
          rw [← h3, ← Array.foldl_toList, Array.toList_zipIdx]
        unfold Instr.fill
        simp only [hp]
        rw [if_neg (by simp; omega)]
        rw [← h7]
        exact congrArg (fun x => Instr.fill place x s) h9
      · cases hf

/-- The places of a struct's fields: first cell and size. -/
def fp (P : Program) (t : TypeId) : Option (List (Nat × Nat)) :=
  match P.underlying t with
  | some (.struct fs) => fs.toList.mapM fun f => (P.info? f.type).map fun i => (f.offset, i.size)
  | _ => none

theorem run_places {w : World} : ∀ (fs : List Field) (l : List (Nat × Nat)), (fs.mapM fun f => (P.info? f.type).map fun i => (f.offset, i.size)) = some l →
    (fs.mapM (m := Sem) fun f => do pure (f.offset, ← sizeOf f.type)).run P w = .ok l w
  | [], l, h => by simp at h; subst h; simp
  | f :: fs, l, h => by
    simp only [List.mapM_cons, Option.bind_eq_bind, Option.bind_eq_some_iff, Option.map_eq_some_iff, Option.pure_def, Option.some.injEq] at h
    obtain ⟨_, ⟨i, hi, rfl⟩, l', h2, rfl⟩ := h
    rw [List.mapM_cons]
    simp only [Sem.run_bind, run_sizeOf hi, Result.andThen_ok, Sem.run_pure, run_places fs l' h2]

theorem run_zero {t : TypeId} {zs : List Value} {w : World} (h : zc P t = some zs) : ∃ z, (zeroValue t).run P w = .ok z w ∧ z.cells.toList = zs := by
  unfold zc at h
  split at h
  · rename_i i hi
    split at h
    · rename_i z hz
      split at h
      · obtain rfl := Option.some.inj h
        exact ⟨z, by simp [zeroValue, typeInfo, hi, hz], rfl⟩
      · cases h
    · cases h
  · cases h

def partsA (env : Env) : List (Nat × Operand) → Option (List (Nat × List AV))
  | [] => some []
  | (i, x) :: r => (avCells (opA env x)).bind fun l => (partsA env r).map ((i, l) :: ·)

theorem opA_rel {m : Places} {w : World} {env : Env} {a : Act} (h : RepE m w env a) {H : Heap} (hH : RepH C m w H) {x : Operand} (hx : ∀ g, x = .global g → g < C.nG) : rel m w (opA env x) (a.eval x) := by
  cases x with
  | tmp t => exact h.get t
  | const v => exact rfl
  | global g => exact ⟨(g, 0), hH.glob g (hx g rfl), rfl⟩
  | func f => exact ⟨#[], #[], rfl, trivial, trivial⟩

/-- No operand is a package-level variable beyond the first nG. -/
def okX (n : Nat) : Operand → Bool
  | .global g => decide (g < n)
  | _ => true
theorem okX_spec {n : Nat} {x : Operand} (h : okX n x = true) : ∀ g, x = .global g → g < n := fun g hg => by subst hg; simpa [okX] using h

theorem partsA_rel {m : Places} {w : World} {env : Env} {a : Act} (h : RepE m w env a) {H : Heap} (hH : RepH C m w H) : ∀ {ps : List (Nat × Operand)} {r : List (Nat × List AV)}, (∀ p ∈ ps, okX C.nG p.2 = true) → partsA env ps = some r →
    PartsRel m w r (ps.map fun p => (p.1, a.eval p.2))
  | [], r, _, hr => by simp [partsA] at hr; subst hr; exact .nil
  | (i, x) :: ps, r, hx, hr => by
    simp only [partsA, Option.bind_eq_some_iff, Option.map_eq_some_iff] at hr
    obtain ⟨l, h1, r', h2, rfl⟩ := hr
    exact .cons (avCells_rel h1 (opA_rel h hH (okX_spec (hx _ (List.mem_cons_self ..))))).1 (partsA_rel h hH (fun p hp => hx p (List.mem_cons_of_mem _ hp)) h2)

/-- An array's elements: how many cells each. -/
def ars (P : Program) (t : TypeId) : Option Nat :=
  match P.underlying t with
  | some (.array _ e) => (P.info? e).map (·.size)
  | _ => none
def buildA (P : Program) (t : TypeId) (parts : List (Nat × List AV)) (H : Heap) : Ans :=
  match zc P t, fp P t with
  | some zs, some ps => match fillA (ps[·]?) (zs.map .val) parts with
    | some cs => some (.agg cs, H)
    | none => none
  | some zs, none => match ars P t with
    | some st => match fillA (fun i => some (i * st, st)) (zs.map .val) parts with
      | some cs => some (.agg cs, H)
      | none => none
    | none => none
  | _, _ => none

theorem buildA_run {t : TypeId} {r : List (Nat × List AV)} {H H' : Heap} {c : AV} (h : buildA P t r H = some (c, H')) {m : Places} {w : World} {ps : Array (Nat × Value)} (hp : PartsRel m w r ps.toList) :
    H' = H ∧ ∃ u, (Instr.build t ps).run P w = .ok u w ∧ rel m w c u := by
  unfold buildA at h
  split at h
  · rename_i zs pl hz hpl
    split at h
    · rename_i cs hcs
      simp only [Option.some.injEq, Prod.mk.injEq] at h
      obtain ⟨rfl, rfl⟩ := h
      obtain ⟨z, hz1, hz2⟩ := run_zero (P := P) (w := w) hz
      unfold fp at hpl
      split at hpl
      · rename_i fs hu
        have hrun := run_places (P := P) (w := w) _ _ hpl
        have hrun2 : (fs.mapM (m := Sem) fun f => do pure (f.offset, ← sizeOf f.type)).run P w = .ok pl.toArray w := by
          rw [Array.mapM_eq_mapM_toList, ← bind_pure_comp, Sem.run_bind, hrun]; rfl
        have hrz : rels m w (zs.map .val) z.cells.toList := by rw [← hz2]; exact rels_val m w _
        obtain ⟨us, h3, h4⟩ := fillA_fill hp hrz hcs
        refine ⟨rfl, .agg us, ?_, us, rfl, h4⟩
        have h5 : Instr.fill (pl.toArray[·]?) z.cells ps.toList = some us := by rw [← h3]; congr 1; funext i; simp
        unfold Instr.build
        simp only [Sem.run_bind, hz1, Result.andThen_ok, run_underlying hu, hrun2, h5, Sem.run_pure]
      · cases hpl
    · cases h
  · rename_i zs hz hfp
    split at h
    · rename_i st hst
      split at h
      · rename_i cs hcs
        simp only [Option.some.injEq, Prod.mk.injEq] at h
        obtain ⟨rfl, rfl⟩ := h
        obtain ⟨z, hz1, hz2⟩ := run_zero (P := P) (w := w) hz
        unfold ars at hst
        split at hst
        · rename_i n e hu
          obtain ⟨i, hi, rfl⟩ := Option.map_eq_some_iff.1 hst
          have hrz : rels m w (zs.map .val) z.cells.toList := by rw [← hz2]; exact rels_val m w _
          obtain ⟨us, h3, h4⟩ := fillA_fill hp hrz hcs
          refine ⟨rfl, .agg us, ?_, us, rfl, h4⟩
          unfold Instr.build
          simp only [Sem.run_bind, hz1, Result.andThen_ok, run_underlying hu, run_sizeOf hi, h3, Sem.run_pure]
        · cases hst
      · cases h
    · cases h
  · cases h
end Go.Proofs.YtlfpjdcogkcjlaaGreatDoor.AL
