/- Arguments opened: slices and structs as objects of the abstract heap. -/
import Derived.Test.YtlfpjdcogkcjlaaGreatDoorT21
import Derived.Test.YtlfpjdcogkcjlaaGreatDoorT9
import Derived.Deep.SlicePairs
import Derived.Deep.Fields
import Derived.ChangeSlices
import Derived.LaidMore
namespace Go.Proofs.YtlfpjdcogkcjlaaGreatDoor.F
open Go.ChangeShapes Go.WideShapes Go.RowKit Go.Deep Go.Proofs.YtlfpjdcogkcjlaaGreatDoor.AL Go.Proofs.YtlfpjdcogkcjlaaGreatDoor.B
set_option linter.unusedVariables false
def InSl (W : World) (v : Value) (n st : Nat) (cell : Nat → Value) : Prop :=
  (v = .slice none 0 0 ∧ n = 0) ∨ ∃ a cap, v = .slice (some a) n cap ∧ n ≤ cap ∧ cap ≤ 9223372036854775807 ∧ ∀ i, i < cap * st → W.cell? (a.add i) = some (cell i)
/-- A value that comes in as an object. -/
structure Obj1 (W : World) (v : Value) (x : Nat → AV) (pl : Nat × Nat) (ob : AObj) : Prop where
  rel : ∀ (o : Nat) (m : Places), m[o]? = some pl → AL.rel m W (x o) v
  relO : ∀ m : Places, AL.relO (CB W) m W pl ob
  mine : ob.mine = false
theorem cell_block {W : World} {a : Addr} {v : Value} (h : W.cell? a = some v) : ∃ arr e fr, W.heap[a.block]? = some (.cells arr e fr) ∧ arr[a.off]? = some v := by
  have hs := World.cell?_spot h
  unfold World.cell? at h
  split at h
  · rename_i c e fr hc
    rw [hs] at h
    exact ⟨c, e, fr, hc, by simpa using h⟩
  · cases h
theorem inSl_obj {W : World} {v : Value} {n st : Nat} {cell : Nat → Value} (hst : 0 < st) (h : InSl W v n st cell) (hW : 0 < W.heap.size) :
    ∃ (x : Nat → AV) (pl : Nat × Nat) (ob : AObj), Obj1 W v x pl ob ∧ ∀ (o : Nat) (H : Heap), H[o]? = some ob → SlOf H (x o) n st fun i => .val (cell i) := by
  rcases h with ⟨rfl, rfl⟩ | ⟨a, cap, rfl, hn, hc, hcell⟩
  · exact ⟨fun _ => .val (.slice none 0 0), (0, 0), .gone, ⟨fun _ _ _ => rfl, fun _ => trivial, rfl⟩, fun _ _ _ => .inl ⟨rfl, rfl⟩⟩
  · rcases Nat.eq_zero_or_pos cap with h0 | h0
    · subst h0
      obtain rfl : n = 0 := by omega
      refine ⟨fun o => .sl false o 0 0 st, (0, 0), .ro [], ⟨fun o m hm => ⟨(0, 0), a, 0, hm, rfl, Nat.le_refl _, by omega, fun h => absurd h (by omega), fun h => by cases h⟩, fun m => ⟨hW, fun j c hj => by simp at hj⟩, rfl⟩, fun o H ho => ?_⟩
      exact .inr ⟨false, o, 0, [], rfl, by rw [ho]; rfl, fun i hi => absurd hi (by omega)⟩
    · have hpos : 0 < cap * st := Nat.mul_pos h0 hst
      have hc0 := hcell 0 hpos
      have hsp := World.cell?_spot hc0
      obtain ⟨b, off, spot⟩ := a
      have e0 : (⟨b, off, spot⟩ : Addr).add 0 = ⟨b, off, spot⟩ := rfl
      rw [e0] at hsp hc0
      simp only at hsp
      subst hsp
      have ea : ∀ j, (⟨b, off, none⟩ : Addr).add j = ⟨b, off + j, none⟩ := by
        intro j
        unfold Addr.add
        split
        · rename_i hj; subst hj; rfl
        · rfl
      obtain ⟨arr, e, fr, hb, _⟩ := cell_block hc0
      simp only at hb
      have hlt : b < W.heap.size := (Array.getElem?_eq_some_iff.1 hb).1
      have hroom : off + cap * st ≤ arr.size := by
        have h1 := hcell (cap * st - 1) (by omega)
        rw [ea] at h1
        obtain ⟨arr', e', fr', hb', h2⟩ := cell_block h1
        simp only at hb' h2
        rw [hb] at hb'
        simp only [Option.some.injEq, Obj.cells.injEq] at hb'
        obtain ⟨rfl, rfl, rfl⟩ := hb'
        have := (Array.getElem?_eq_some_iff.1 h2).1
        omega
      refine ⟨fun o => .sl false o 0 n st, (b, off), .ro ((List.range (cap * st)).map fun i => .val (cell i)), ⟨fun o m hm => ⟨(b, off), ⟨b, off, none⟩, cap, hm, rfl, hn, hc, fun _ => ⟨rfl, arr, e, fr, hb, hroom⟩, fun h => by cases h⟩, fun m => ⟨hlt, fun j c hj => ?_⟩, rfl⟩, fun o H ho => ?_⟩
      · have hjl : j < cap * st := by
          have := (List.getElem?_eq_some_iff.1 hj).1
          simpa using this
        simp only [List.getElem?_map, List.getElem?_range hjl, Option.map_some, Option.some.injEq] at hj
        subst hj
        have := hcell j hjl
        rw [ea] at this
        exact ⟨_, this, rfl⟩
      · refine .inr ⟨false, o, 0, _, rfl, by rw [ho]; rfl, fun i hi => ?_⟩
        have hil : i < cap * st := Nat.lt_of_lt_of_le hi (Nat.mul_le_mul_right _ hn)
        rw [Nat.zero_add, List.getElem?_map, List.getElem?_range hil]
        rfl
theorem SlOf.congr {H : Heap} {x : AV} {n st : Nat} {c c' : Nat → AV} (h : SlOf H x n st c) (he : ∀ i, i < n * st → c i = c' i) : SlOf H x n st c' := by
  rcases h with h | ⟨own, o, off, cs, h1, h2, h3⟩
  · exact .inl h
  · exact .inr ⟨own, o, off, cs, h1, h2, fun i hi => by rw [h3 i hi, he i hi]⟩
theorem wf_range {n : Int} (h : (Lit.int .i64 n).wf = true) : -9223372036854775808 ≤ n ∧ n ≤ 9223372036854775807 := by
  have e : (Lit.int .i64 n).wf = (decide (-9223372036854775808 ≤ n) && decide (n ≤ 9223372036854775807)) := rfl
  rw [e] at h
  simpa using h
theorem wf_range8 {n : Int} (h : (Lit.int .u8 n).wf = true) : 0 ≤ n ∧ n ≤ 255 := by
  have e : (Lit.int .u8 n).wf = (decide (0 ≤ n) && decide (n ≤ 255)) := rfl
  rw [e] at h
  simpa using h
section
variable {H : Type} {enc : TypeId × Value → H} {P : Program} {W : World}
def numV : Value → Int
  | .int _ n => n
  | _ => 0
theorem ints_obj {t e : TypeId} {fuel : Nat} {v : Value} {y : DataW H × List MemPlace} (ht : P.underlying t = some (.slice e)) (he : P.underlying e = some (.int .i64)) (hc : P.cellsOf e = 1) (hW : 0 < W.heap.size)
    (h : DataW.trod enc P W 0 (fun _ => true) true fuel t [v] = some y) :
    ∃ (x : Nat → AV) (pl : Nat × Nat) (ob : AObj) (l : List Int), Obj1 W v x pl ob ∧ (∀ (o : Nat) (H : Heap), H[o]? = some ob → IntsAt H (x o) l) ∧ ∀ n ∈ l, -9223372036854775808 ≤ n ∧ n ≤ 9223372036854775807 := by
  rcases open_ints ht he hc h with ⟨hcs, _⟩ | ⟨a, len, cap, zs, hcs, _, hl, hm, hz, _, hcell, hw⟩
  · simp only [List.cons.injEq, and_true] at hcs
    obtain ⟨x, pl, ob, h1, h2⟩ := inSl_obj (W := W) (v := v) (n := 0) (st := 1) (cell := fun _ => .bool false) (by omega) (.inl ⟨hcs, rfl⟩) hW
    exact ⟨x, pl, ob, [], h1, fun o H ho => (h2 o H ho).congr (fun i hi => absurd hi (by omega)), fun n hn => by cases hn⟩
  · simp only [List.cons.injEq, and_true] at hcs
    simp only [if_true] at hz
    obtain ⟨x, pl, ob, h1, h2⟩ := inSl_obj (W := W) (v := v) (n := len) (st := 1) (cell := fun i => .int .i64 (zs.getD i 0)) (by omega) (.inr ⟨a, cap, hcs, hl, hm, fun i hi => hcell i (by omega)⟩) hW
    have hlen : (zs.take len).length = len := by rw [List.length_take]; omega
    refine ⟨x, pl, ob, zs.take len, h1, fun o H ho => ?_, fun n hn => wf_range (hw n (List.mem_of_mem_take hn))⟩
    unfold IntsAt
    rw [hlen]
    refine (h2 o H ho).congr fun i hi => ?_
    have : (zs.take len).getD i 0 = zs.getD i 0 := by
      rw [List.getD_eq_getElem?_getD, List.getD_eq_getElem?_getD, List.getElem?_take_of_lt (by omega)]
    rw [this]
theorem days_obj {t e : TypeId} {f0 f1 : Field} {fuel : Nat} {v : Value} {y : DataW H × List MemPlace} (ht : P.underlying t = some (.slice e)) (he : P.underlying e = some (.struct #[f0, f1])) (ce : P.cellsOf e = 2) (o0 : f0.offset = 0) (o1 : f1.offset = 1)
    (c0 : P.cellsOf f0.type = 1) (c1 : P.cellsOf f1.type = 1) (t0 : P.underlying f0.type = some (.int .i64)) (t1 : P.underlying f1.type = some (.int .i64)) (hW : 0 < W.heap.size)
    (h : DataW.trod enc P W 0 (fun _ => true) true fuel t [v] = some y) :
    ∃ (x : Nat → AV) (pl : Nat × Nat) (ob : AObj) (l : List (Int × Int)), Obj1 W v x pl ob ∧ (∀ (o : Nat) (H : Heap), H[o]? = some ob → DaysAt H (x o) l) ∧
      ∀ d ∈ l, (-9223372036854775808 ≤ d.1 ∧ d.1 ≤ 9223372036854775807) ∧ (-9223372036854775808 ≤ d.2 ∧ d.2 ≤ 9223372036854775807) := by
  rcases open_slice_pairs ht he ce o0 o1 c0 c1 h with ⟨hcs, _⟩ | ⟨a, len, cap, m, n, V0, V1, D0, D1, P0, P1, hcs, _, hl, hm, hz, _, hcell⟩
  · simp only [List.cons.injEq, and_true] at hcs
    obtain ⟨x, pl, ob, h1, h2⟩ := inSl_obj (W := W) (v := v) (n := 0) (st := 2) (cell := fun _ => .bool false) (by omega) (.inl ⟨hcs, rfl⟩) hW
    exact ⟨x, pl, ob, [], h1, fun o H ho => (h2 o H ho).congr (fun i hi => absurd hi (by omega)), fun n hn => by cases hn⟩
  · simp only [List.cons.injEq, and_true] at hcs
    simp only [if_true] at hz
    subst hz
    have each : ∀ i, i < m → W.cell? (a.add (i * 2)) = some (.int .i64 (numV (V0 i))) ∧ W.cell? (a.add (i * 2 + 1)) = some (.int .i64 (numV (V1 i))) ∧ (Lit.int .i64 (numV (V0 i))).wf = true ∧ (Lit.int .i64 (numV (V1 i))).wf = true := by
      intro i hi
      obtain ⟨h1, h2, h3, h4⟩ := hcell i hi
      obtain ⟨n0, e0, _, w0⟩ := DataW.trod_int t0 h3
      obtain ⟨n1, e1, _, w1⟩ := DataW.trod_int t1 h4
      simp only [List.cons.injEq, and_true] at e0 e1
      rw [e0] at h1 ⊢
      rw [e1] at h2 ⊢
      exact ⟨h1, h2, w0, w1⟩
    obtain ⟨x, pl, ob, h1, h2⟩ := inSl_obj (W := W) (v := v) (n := len) (st := 2) (cell := fun i => .int .i64 (if i % 2 = 0 then numV (V0 (i / 2)) else numV (V1 (i / 2)))) (by omega) (.inr ⟨a, m, hcs, hl, hm, fun i hi => by
      obtain ⟨k1, k2, _⟩ := each (i / 2) (by omega)
      show W.cell? (a.add i) = some (Value.int .i64 (if i % 2 = 0 then numV (V0 (i / 2)) else numV (V1 (i / 2))))
      split
      · rename_i hp
        rw [show i / 2 * 2 = i by omega] at k1
        exact k1
      · rename_i hp
        rw [show i / 2 * 2 + 1 = i by omega] at k2
        exact k2⟩) hW
    have hlen : ((List.range len).map fun i => (numV (V0 i), numV (V1 i))).length = len := by simp
    refine ⟨x, pl, ob, (List.range len).map fun i => (numV (V0 i), numV (V1 i)), h1, fun o H ho => ?_, fun d hd => ?_⟩
    · unfold DaysAt
      rw [hlen]
      refine (h2 o H ho).congr fun i hi => ?_
      have : ((List.range len).map fun i => (numV (V0 i), numV (V1 i))).getD (i / 2) (0, 0) = (numV (V0 (i / 2)), numV (V1 (i / 2))) := by
        rw [List.getD_eq_getElem?_getD, List.getElem?_map, List.getElem?_range (by omega)]
        rfl
      rw [this]
      split <;> rfl
    · obtain ⟨i, hi, rfl⟩ := List.mem_map.1 hd
      obtain ⟨_, _, w0, w1⟩ := each i (by have := List.mem_range.1 hi; omega)
      exact ⟨wf_range w0, wf_range w1⟩
theorem open_fields {r : Reach} {b0 : Nat} {t : TypeId} {fs : Array Field} {v : Value} {d : DataW H} {p : List MemPlace} (hs : P.underlying t = some (.struct fs)) (hone : oneCellFields P fs = true) (hC : P.cellsOf t = fs.size) (hv : Value.okWide P W r b0 t v) (h : DataW.Trod enc P W 0 (fun _ => true) true t v d p) :
    ∃ l : List Value, v = .agg ⟨l⟩ ∧ l.length = fs.size ∧ ∃ n, ∀ (i : Nat) (f : Field) (c : Value), fs[i]? = some f → l[i]? = some c → ∃ y, DataW.trod enc P W 0 (fun _ => true) true n f.type [c] = some y := by
  obtain ⟨cs, rfl, hsz⟩ := okWide_struct hs hv
  obtain ⟨l⟩ := cs
  obtain ⟨fuel, hf⟩ := h
  obtain ⟨xs, n, _, _, _, hxl, hg⟩ := DataW.trod_struct hs hf
  refine ⟨l, rfl, hsz.trans hC, n, fun i f c hi hc => ?_⟩
  obtain ⟨ho, hk⟩ := hone_of hone i f hi
  have h1 := hg i f hi
  have hil : i < xs.length := by
    have := (Array.getElem?_eq_some_iff.1 hi).1
    omega
  have hcl := (List.getElem?_eq_some_iff.1 hc).1
  rw [ho, hk, List.getElem?_eq_getElem hil] at h1
  have e1 : (((Value.agg ⟨l⟩).cells).toList.drop i).take 1 = [c] := by
    show (l.drop i).take 1 = [c]
    rw [List.drop_eq_getElem_cons hcl, (List.getElem?_eq_some_iff.1 hc).2]
    rfl
  rw [e1] at h1
  exact ⟨_, h1⟩
end
end Go.Proofs.YtlfpjdcogkcjlaaGreatDoor.F
