/-
  Loads and stores over abstract states are the machine's.
-/
import Derived.Test.YtlfpjdcogkcjlaaGreatDoorAL2
namespace Go.Proofs.YtlfpjdcogkcjlaaGreatDoor.AL
open Go.RowKit
set_option linter.unusedVariables false
set_option linter.unusedSimpArgs false

theorem add_at (b o k : Nat) : (⟨b, o, none⟩ : Addr).add k = ⟨b, o + k, none⟩ := by unfold Addr.add; split <;> simp_all

theorem run_load_cell {P : Program} {w : World} {a : Addr} {v : Value} (h : w.cell? a = some v) : (load a).run P w = .ok v w := by simp [load, Sem.run, h]
theorem run_cellsFrom {P : Program} {w : World} (b o : Nat) : ∀ (n i : Nat) (vs acc : List Value), vs.length = n → (∀ j v, vs[j]? = some v → w.cell? ⟨b, o + (i + j), none⟩ = some v) →
    (loadCellsFrom ⟨b, o, none⟩ i n acc.toArray).run P w = .ok (acc ++ vs).toArray w
  | 0, i, vs, acc, hl, _ => by
    obtain rfl := List.eq_nil_of_length_eq_zero hl
    simp [loadCellsFrom]
  | n + 1, i, vs, acc, hl, h => by
    cases vs with
    | nil => simp at hl
    | cons v vs =>
      have h0 := h 0 v rfl
      rw [Nat.add_zero] at h0
      rw [loadCellsFrom, Sem.run_bind, add_at, run_load_cell h0, Result.andThen_ok]
      have := run_cellsFrom (P := P) b o n (i + 1) vs (acc ++ [v]) (by simpa using hl) (fun j u hj => by
        have := h (j + 1) u (by simpa using hj)
        rwa [show o + (i + (j + 1)) = o + (i + 1 + j) by omega] at this)
      simpa using this

variable {P : Program} {C : Base}
theorem run_isAgg_one {t : TypeId} {d : TypeDesc} {w : World} (hu : P.underlying t = some d) (hs : ∀ fs, d ≠ .struct fs) (ha : ∀ l e, d ≠ .array l e) : (isAgg t).run P w = .ok false w := by
  unfold isAgg
  rw [Sem.run_bind, run_underlying hu, Result.andThen_ok]
  cases d <;> simp_all
theorem run_isAgg_many {t : TypeId} {d : TypeDesc} {w : World} (hu : P.underlying t = some d) (hs : (∃ fs, d = .struct fs) ∨ (∃ l e, d = .array l e)) : (isAgg t).run P w = .ok true w := by
  unfold isAgg
  rw [Sem.run_bind, run_underlying hu, Result.andThen_ok]
  rcases hs with ⟨_, rfl⟩ | ⟨_, _, rfl⟩ <;> simp
theorem run_sizeOf {t : TypeId} {i : TypeInfo} {w : World} (hi : P.info? t = some i) : (sizeOf t).run P w = .ok i.size w := by
  simp [sizeOf, typeInfo, hi]
theorem kd_one {t : TypeId} (h : kd P t = some .one) : ∃ d i, P.underlying t = some d ∧ P.info? t = some i ∧ i.size = 1 ∧ (∀ fs, d ≠ .struct fs) ∧ ∀ l e, d ≠ .array l e := by
  unfold kd at h
  split at h
  · simp at h
  · simp at h
  · rename_i d i hu hi hs ha
    split at h
    · exact ⟨d, i, hs, ha, by assumption, fun fs e => hu fs e, fun l e he => hi l e he⟩
    · cases h
  · cases h
theorem kd_many {t : TypeId} {n : Nat} (h : kd P t = some (.many n)) : ∃ d i, P.underlying t = some d ∧ P.info? t = some i ∧ i.size = n ∧ ((∃ fs, d = .struct fs) ∨ ∃ l e, d = .array l e) := by
  unfold kd at h
  split at h
  · rename_i fs i hu hi
    simp only [Option.some.injEq, Kind.many.injEq] at h
    exact ⟨_, i, hu, hi, h, .inl ⟨_, rfl⟩⟩
  · rename_i l e i hu hi
    simp only [Option.some.injEq, Kind.many.injEq] at h
    exact ⟨_, i, hu, hi, h, .inr ⟨_, _, rfl⟩⟩
  · split at h <;> simp at h
  · cases h

theorem RepH.cell {m : Places} {w : World} {H : Heap} (h : RepH C m w H) {o : Nat} {cs : List AV} (hc : cellsOf H o = some cs) {b : Nat × Nat} (hb : m[o]? = some b) {j : Nat} {c : AV} (hj : cs[j]? = some c) :
    ∃ v, w.cell? ⟨b.1, b.2 + j, none⟩ = some v ∧ rel m w c v := by
  unfold cellsOf at hc
  split at hc
  · rename_i cs' hx
    obtain rfl := Option.some.inj hc
    exact (h.obj _ _ _ hx hb).2 j c hj
  · rename_i e cs' hx
    obtain rfl := Option.some.inj hc
    obtain ⟨_, arr, h1, _, h3⟩ := h.obj _ _ _ hx hb
    obtain ⟨v, h4, h5⟩ := h3 j c hj
    exact ⟨v, by simp [World.cell?, h1, h4], h5⟩
  · cases hc

theorem RepH.cells {m : Places} {w : World} {H : Heap} (h : RepH C m w H) {o : Nat} {cs : List AV} (hc : cellsOf H o = some cs) {b : Nat × Nat} (hb : m[o]? = some b) :
    ∀ (n i : Nat), i + n ≤ cs.length → ∃ vs : List Value, vs.length = n ∧ (∀ j v, vs[j]? = some v → w.cell? ⟨b.1, b.2 + (i + j), none⟩ = some v) ∧ rels m w ((cs.drop i).take n) vs
  | 0, i, _ => ⟨[], rfl, by simp, by simp [rels]⟩
  | n + 1, i, hi => by
    have hlt : i < cs.length := by omega
    obtain ⟨v, h1, h2⟩ := h.cell hc hb (List.getElem?_eq_getElem hlt)
    obtain ⟨vs, h3, h4, h5⟩ := h.cells hc hb n (i + 1) (by omega)
    refine ⟨v :: vs, by simp [h3], fun j u hj => ?_, ?_⟩
    · cases j with
      | zero => simp at hj; subst hj; exact h1
      | succ j => have := h4 j u (by simpa using hj); rwa [show b.2 + (i + (j + 1)) = b.2 + (i + 1 + j) by omega]
    · rw [List.drop_eq_getElem_cons hlt, List.take_succ_cons]
      exact ⟨h2, h5⟩

theorem loadA_run {t : TypeId} {x : AV} {H H' : Heap} {r : AV} (h : loadA P t x H = some (r, H')) {m : Places} {w : World} (hR : RepH C m w H) {v : Value} (hv : rel m w x v) :
    H' = H ∧ ∃ u, (Instr.loadAt t v).run P w = .ok u w ∧ rel m w r u := by
  unfold loadA at h
  split at h
  · rename_i o off
    obtain ⟨b, hb, rfl⟩ := hv
    split at h
    · rename_i cs hc hk
      simp only [Option.map_eq_some_iff, Prod.mk.injEq] at h
      obtain ⟨c, hcs, rfl, rfl⟩ := h
      obtain ⟨u, h1, h2⟩ := hR.cell hc hb hcs
      refine ⟨rfl, u, ?_, h2⟩
      obtain ⟨d, i, hu, _, _, hs, ha⟩ := kd_one hk
      simp [Instr.loadAt, Instr.sureAddr, loadVar, run_isAgg_one hu hs ha, load, Sem.run, h1]
    · rename_i cs n hc hk
      split at h
      · rename_i hle
        simp only [Option.some.injEq, Prod.mk.injEq] at h
        obtain ⟨rfl, rfl⟩ := h
        obtain ⟨vs, h1, h2, h3⟩ := hR.cells hc hb n off hle
        refine ⟨rfl, .agg vs.toArray, ?_, vs.toArray, rfl, by simpa using h3⟩
        have hrun := run_cellsFrom (P := P) (w := w) b.1 (b.2 + off) n 0 vs [] h1 (fun j u hj => by
          have := h2 j u hj
          rwa [show b.2 + (off + j) = b.2 + off + (0 + j) by omega] at this)
        obtain ⟨d, i, hu, hi, hn, hs⟩ := kd_many hk
        have hrun2 : (loadCells ⟨b.1, b.2 + off, none⟩ n).run P w = .ok vs.toArray w := by unfold loadCells; simpa using hrun
        simp [Instr.loadAt, Instr.sureAddr, loadVar, run_isAgg_many hu hs, run_sizeOf hi, hn, hrun2]
      · cases h
    · cases h
  · cases h

/-- Only block b turned: cells i, i + 1, .. of its row are vs. -/
structure Turned (w w' : World) (b : Nat) (e : TypeId) (arr : Array Value) (i : Nat) (vs : List Value) : Prop where
  os : w'.os = w.os
  tape : w'.tape = w.tape
  output : w'.output = w.output
  size : w'.heap.size = w.heap.size
  far : ∀ k, k ≠ b → w'.heap[k]? = w.heap[k]?
  here : ∃ arr', w'.heap[b]? = some (.cells arr' e (0, 0)) ∧ arr'.size = arr.size ∧ ∀ j, arr'[j]? = if i ≤ j ∧ j < i + vs.length then vs[j - i]? else arr[j]?

theorem run_store_cell {P : Program} {w : World} {b i : Nat} {e : TypeId} {arr : Array Value} (h : w.heap[b]? = some (.cells arr e (0, 0))) (hi : i < arr.size) {v : Value} (h1 : v.oneCell' = true) :
    (store ⟨b, i, none⟩ v).run P w = .ok () (w.setCell ⟨b, i, none⟩ v) := by
  have hc : w.cell? ⟨b, i, none⟩ = some arr[i] := by simp [World.cell?, h, hi]
  have hf : w.frozen? ⟨b, i, none⟩ = false := by simp [World.frozen?, h]
  cases v <;> first | (simp [Value.oneCell'] at h1; done) | simp [store, Sem.run, hc, hf]

theorem run_storeCells {P : Program} (b o : Nat) (e : TypeId) : ∀ (vs : List Value) (i : Nat) (w : World) (arr : Array Value), w.heap[b]? = some (.cells arr e (0, 0)) → o + i + vs.length ≤ arr.size → (∀ v ∈ vs, v.oneCell' = true) →
    ∃ w', (storeCells ⟨b, o, none⟩ vs i).run P w = .ok () w' ∧ Turned w w' b e arr (o + i) vs
  | [], i, w, arr, h, hl, h1 => ⟨w, by simp [storeCells], rfl, rfl, rfl, rfl, fun _ _ => rfl, arr, h, rfl, fun j => by simp; intro h1 h2; omega⟩
  | v :: vs, i, w, arr, h, hl, h1 => by
    simp only [List.length_cons] at hl
    have hr := run_store_cell (P := P) h (i := o + i) (by omega) (h1 v (by simp))
    have hh : (w.setCell ⟨b, o + i, none⟩ v).heap[b]? = some (.cells (arr.setIfInBounds (o + i) v) e (0, 0)) := by simp [World.setCell, Array.getElem?_modify, h]
    obtain ⟨w', h2, h3⟩ := run_storeCells b o e vs (i + 1) _ _ hh (by simp; omega) (fun u hu => h1 u (by simp [hu]))
    refine ⟨w', ?_, h3.os, h3.tape, h3.output, h3.size.trans (by simp [World.setCell]), fun k hk => (h3.far k hk).trans (Below.heap_setCell w _ v k hk), ?_⟩
    · rw [storeCells, Sem.run_bind, add_at, hr, Result.andThen_ok]; exact h2
    · obtain ⟨arr', h4, h5, h6⟩ := h3.here
      refine ⟨arr', h4, by simpa using h5, fun j => ?_⟩
      rw [h6 j]
      by_cases hj : j = o + i
      · subst hj
        rw [if_neg (by omega), if_pos (by simp)]
        simp [show o + i < arr.size by omega]
      · by_cases h7 : o + (i + 1) ≤ j ∧ j < o + (i + 1) + vs.length
        · rw [if_pos h7, if_pos (by simp; omega), show j - (o + i) = (j - (o + (i + 1))) + 1 by omega]
          simp
        · rw [if_neg h7, if_neg (by simp; omega)]
          rw [Array.getElem?_setIfInBounds_ne (by omega)]

theorem Turned.szs {w w' : World} {b i : Nat} {e : TypeId} {arr : Array Value} {vs : List Value} (h : Turned w w' b e arr i vs) (hb : w.heap[b]? = some (.cells arr e (0, 0))) : Szs w w' := fun k a e' fr hk => by
  by_cases he : k = b
  · subst he
    rw [hb] at hk
    obtain ⟨arr', h1, h2, _⟩ := h.here
    injection hk with hk
    injection hk with ha he' hf
    subst ha; subst he'; subst hf
    exact ⟨arr', h1, h2⟩
  · exact ⟨a, (h.far k he).trans hk, rfl⟩

theorem relO_far {m : Places} {w w' : World} {b : Nat × Nat} {x : AObj} (h : relO C m w b x) (hs : Szs w w') (hk : w'.heap[b.1]? = w.heap[b.1]?) : relO C m w' b x := by
  cases x with
  | ro cs => exact ⟨h.1, fun j c hj => by
      obtain ⟨v, h1, h2⟩ := h.2 j c hj
      exact ⟨v, (World.cell?_of_block (a := ⟨b.1, b.2 + j, none⟩) hk).trans h1, rel_more (List.prefix_refl m) hs h2⟩⟩
  | own e cs =>
    obtain ⟨h0, arr, h1, h2, h3⟩ := h
    exact ⟨h0, arr, hk.trans h1, h2, fun j c hj => by
      obtain ⟨v, h4, h5⟩ := h3 j c hj
      exact ⟨v, h4, rel_more (List.prefix_refl m) hs h5⟩⟩
  | map es =>
    obtain ⟨h0, ens, clock, h1, h2, h3⟩ := h
    exact ⟨h0, ens, clock, hk.trans h1, h2, fun j k c hj => by
      obtain ⟨en, h4, h5, h6⟩ := h3 j k c hj
      exact ⟨en, h4, h5, rel_more (List.prefix_refl m) hs h6⟩⟩
  | gone => trivial

theorem relO_block {m : Places} {w : World} {b : Nat × Nat} {x : AObj} (h : relO C m w b x) (hx : x.mine = false) (hg : x ≠ .gone) : b.1 < C.B := by
  cases x with
  | ro cs => exact h.1
  | own e cs => simp [AObj.mine] at hx
  | map es => simp [AObj.mine] at hx
  | gone => exact absurd rfl hg

/-- A row of the call's own whose block alone turned. -/
theorem RepH.turn {m : Places} {w w' : World} {H : Heap} (h : RepH C m w H) {o : Nat} {b : Nat × Nat} {e : TypeId} {cs cs' : List AV} (ho : H[o]? = some (.own e cs)) (hb : m[o]? = some b)
    (hos : w'.os = w.os) (htape : w'.tape = w.tape) (hout : w'.output = w.output) (hsize : w'.heap.size = w.heap.size) (hfar : ∀ k, k ≠ b.1 → w'.heap[k]? = w.heap[k]?) (hs : Szs w w')
    (hnew : ∃ arr, w'.heap[b.1]? = some (.cells arr e (0, 0)) ∧ b.2 + cs'.length ≤ arr.size ∧ ∀ (j : Nat) c, cs'[j]? = some c → ∃ v, arr[b.2 + j]? = some v ∧ rel m w' c v) :
    RepH C m w' (H.set o (.own e cs')) := by
  have hB : C.B ≤ b.1 := (h.obj _ _ _ ho hb).1.1
  have hlt : o < H.length := (List.getElem?_eq_some_iff.1 ho).1
  refine ⟨⟨hos.trans h.below.os, htape.trans h.below.tape, hout.trans h.below.output, by rw [hsize]; exact h.below.size, fun k hk => (hfar k (by omega)).trans (h.below.block k hk)⟩, by rw [hsize]; exact h.size, by simpa using h.len, h.glob, ?_, ?_⟩
  · intro q x b' hx hb'
    by_cases hq : q = o
    · subst hq
      rw [List.getElem?_set_self hlt] at hx
      obtain rfl := Option.some.inj hx
      rw [hb] at hb'
      obtain rfl := Option.some.inj hb'
      exact ⟨(h.obj _ _ _ ho hb).1, hnew⟩
    · rw [List.getElem?_set_ne (by omega)] at hx
      have hr := h.obj _ _ _ hx hb'
      by_cases hg : x = .gone
      · subst hg; trivial
      · refine relO_far hr hs (hfar _ ?_)
        cases hm : x.mine with
        | true => exact h.apart q o x _ b' b hq hx ho hb' hb hm rfl
        | false => have := relO_block hr hm hg; omega
  · intro q q' x x' b1 b2 hne hx hx' h1 h2 hm hm'
    have aux : ∀ (q : Nat) x, (H.set o (.own e cs'))[q]? = some x → x.mine = true → ∃ y, H[q]? = some y ∧ y.mine = true := by
      intro q x hx hm
      by_cases hq : q = o
      · subst hq; exact ⟨_, ho, rfl⟩
      · rw [List.getElem?_set_ne (by omega)] at hx; exact ⟨x, hx, hm⟩
    obtain ⟨y, hy, hym⟩ := aux q x hx hm
    obtain ⟨y', hy', hym'⟩ := aux q' x' hx' hm'
    exact h.apart q q' y y' b1 b2 hne hy hy' h1 h2 hym hym'
theorem putCells_length (cs : List AV) (i : Nat) (l : List AV) (h : i + l.length ≤ cs.length) : (putCells cs i l).length = cs.length := by
  simp [putCells]; omega
theorem putCells_get (cs : List AV) (i : Nat) (l : List AV) (h : i + l.length ≤ cs.length) (j : Nat) : (putCells cs i l)[j]? = if i ≤ j ∧ j < i + l.length then l[j - i]? else cs[j]? := by
  unfold putCells
  by_cases h1 : j < i
  · rw [if_neg (by omega), List.append_assoc, List.getElem?_append_left (by simp; omega), List.getElem?_take_of_lt h1]
  · by_cases h2 : j < i + l.length
    · rw [if_pos ⟨by omega, h2⟩, List.append_assoc, List.getElem?_append_right (by simp; omega), List.getElem?_append_left (by simp; omega)]
      simp [show min i cs.length = i by omega]
    · rw [if_neg (by omega), List.getElem?_append_right (by simp; omega)]
      simp [show min i cs.length = i by omega, List.getElem?_drop]
      congr 1; omega

theorem storeA_run {t : TypeId} {x y : AV} {H H' : Heap} (h : storeA P t x y H = some H') {m : Places} {w : World} (hR : RepH C m w H) {v u : Value} (hv : rel m w x v) (hu : rel m w y u) :
    ∃ w', (Instr.storeAt t v u).run P w = .ok () w' ∧ Fwd C m w m w' H' := by
  unfold storeA at h
  split at h
  · rename_i o off l hl
    obtain ⟨b, hb, rfl⟩ := hv
    split at h
    · rename_i e cs ho
      split at h
      · rename_i hc
        obtain ⟨hsz, hle⟩ := hc
        obtain rfl := Option.some.inj h
        obtain ⟨h1, h2⟩ := avCells_rel hl hu
        obtain ⟨hB, arr, h3, h4, h5⟩ := hR.obj _ _ _ ho hb
        have hll := rels_length h1
        obtain ⟨w', h6, h7⟩ := run_storeCells (P := P) b.1 (b.2 + off) e u.cells.toList 0 w arr h3 (by rw [← hll]; omega) h2
        rw [Nat.add_zero] at h7
        have hs := h7.szs h3
        refine ⟨w', ?_, List.prefix_refl m, hs, ?_⟩
        · obtain ⟨i, hi, hsz'⟩ := Option.map_eq_some_iff.1 hsz
          have : u.cells.size = i.size := by rw [hsz', hll]; simp
          simp [Instr.storeAt, Instr.sureAddr, storeVar, run_sizeOf hi, this, h6]
        · refine hR.turn ho hb h7.os h7.tape h7.output h7.size h7.far hs ?_
          obtain ⟨arr', h8, h9, h10⟩ := h7.here
          refine ⟨arr', h8, by rw [putCells_length _ _ _ hle]; omega, fun j c hj => ?_⟩
          rw [putCells_get _ _ _ hle] at hj
          split at hj
          · rename_i hlt
            obtain ⟨v, h11, h12⟩ := rels_get h1 _ _ hj
            refine ⟨v, ?_, rel_more (List.prefix_refl m) hs h12⟩
            rw [h10, if_pos ⟨by omega, by rw [← hll]; omega⟩, show b.2 + j - (b.2 + off) = j - off by omega, h11]
          · rename_i hlt
            obtain ⟨v, h11, h12⟩ := h5 j c hj
            refine ⟨v, ?_, rel_more (List.prefix_refl m) hs h12⟩
            rw [h10, if_neg (by rw [← hll]; omega), h11]
      · cases h
    · cases h
  · cases h

/-- A new block of the call's own. -/
theorem RepH.new {m : Places} {w : World} {H : Heap} (h : RepH C m w H) (e : TypeId) {arr : Array Value} {cs : List AV} (hcs : ∀ (j : Nat) c, cs[j]? = some c → ∃ v, arr[j]? = some v ∧ rel m w c v) (hl : cs.length ≤ arr.size) :
    Fwd C m w (m ++ [(w.heap.size, 0)]) (w.alloc (.cells arr e)) (H ++ [.own e cs]) := by
  have hpre : m <+: m ++ [(w.heap.size, 0)] := List.prefix_append _ _
  have hs : Szs w (w.alloc (.cells arr e)) := fun k a e' fr hk => ⟨a, by
    have hlt : k < w.heap.size := (Array.getElem?_eq_some_iff.1 hk).1
    rw [Below.heap_alloc w _ k hlt]; exact hk, rfl⟩
  have hnew := heap_alloc_new w (.cells arr e)
  have hold : ∀ (o : Nat) x b, H[o]? = some x → m[o]? = some b → x.mine = true → b.1 < w.heap.size := by
    intro o x b hx hb hm
    have hr := h.obj _ _ _ hx hb
    cases x with
    | own e cs => obtain ⟨_, arr, h1, _⟩ := hr; exact (Array.getElem?_eq_some_iff.1 h1).1
    | map es => obtain ⟨_, _, _, h1, _⟩ := hr; exact (Array.getElem?_eq_some_iff.1 h1).1
    | ro _ => simp [AObj.mine] at hm
    | gone => simp [AObj.mine] at hm
  refine ⟨hpre, hs, ⟨h.below.alloc h.size _, by have := h.size; simp; omega, by simp [h.len], fun g hg => get_pre hpre (h.glob g hg), ?_, ?_⟩⟩
  · intro o x b hx hb
    by_cases ho : o < H.length
    · rw [List.getElem?_append_left ho] at hx
      rw [List.getElem?_append_left (by rw [h.len]; exact ho)] at hb
      have hr := h.obj _ _ _ hx hb
      have hk : x ≠ .gone → (w.alloc (.cells arr e)).heap[b.1]? = w.heap[b.1]? := fun hg => by
        refine Below.heap_alloc w _ b.1 ?_
        cases hm : x.mine with
        | true => exact hold o x b hx hb hm
        | false => have := relO_block hr hm hg; have := h.size; omega
      cases x with
      | gone => trivial
      | ro cs => 
        have := relO_far hr hs (hk (by simp))
        exact ⟨this.1, fun j c hj => by
          obtain ⟨v, h1, h2⟩ := this.2 j c hj
          exact ⟨v, h1, rel_more hpre (Szs.refl _) h2⟩⟩
      | own e' cs' =>
        obtain ⟨h0, a, h1, h2, h3⟩ := relO_far hr hs (hk (by simp))
        exact ⟨h0, a, h1, h2, fun j c hj => by
          obtain ⟨v, h4, h5⟩ := h3 j c hj
          exact ⟨v, h4, rel_more hpre (Szs.refl _) h5⟩⟩
      | map es =>
        obtain ⟨h0, ens, clock, h1, h2, h3⟩ := relO_far hr hs (hk (by simp))
        exact ⟨h0, ens, clock, h1, h2, fun j k c hj => by
          obtain ⟨en, h4, h5, h6⟩ := h3 j k c hj
          exact ⟨en, h4, h5, rel_more hpre (Szs.refl _) h6⟩⟩
    · have ho' : o = H.length := by
        have := (List.getElem?_eq_some_iff.1 hx).1
        simp at this; omega
      subst ho'
      rw [List.getElem?_append_right (by omega)] at hx
      rw [List.getElem?_append_right (by rw [h.len]; omega), h.len] at hb
      simp at hx hb
      subst hx; subst hb
      exact ⟨⟨h.size, rfl⟩, arr, hnew, by omega, fun j c hj => by
        obtain ⟨v, h1, h2⟩ := hcs j c hj
        exact ⟨v, by simpa using h1, rel_more hpre hs h2⟩⟩
  · intro o o' x x' b b' hne hx hx' hb hb' hm hm'
    have aux : ∀ (o : Nat) x b, (H ++ [.own e cs])[o]? = some x → (m ++ [(w.heap.size, 0)])[o]? = some b → x.mine = true → (o < H.length ∧ H[o]? = some x ∧ m[o]? = some b) ∨ (o = H.length ∧ b.1 = w.heap.size) := by
      intro o x b hx hb hm
      by_cases ho : o < H.length
      · rw [List.getElem?_append_left ho] at hx
        rw [List.getElem?_append_left (by rw [h.len]; exact ho)] at hb
        exact .inl ⟨ho, hx, hb⟩
      · have ho' : o = H.length := by
          have := (List.getElem?_eq_some_iff.1 hx).1
          simp at this; omega
        subst ho'
        rw [List.getElem?_append_right (by rw [h.len]; omega), h.len] at hb
        simp at hb
        exact .inr ⟨rfl, by rw [← hb]⟩
    rcases aux o x b hx hb hm with ⟨h1, h2, h3⟩ | ⟨h1, h2⟩ <;> rcases aux o' x' b' hx' hb' hm' with ⟨k1, k2, k3⟩ | ⟨k1, k2⟩
    · exact h.apart o o' x x' b b' hne h2 k2 h3 k3 hm hm'
    · have := hold o x b h2 h3 hm; omega
    · have := hold o' x' b' k2 k3 hm'; omega
    · omega
end Go.Proofs.YtlfpjdcogkcjlaaGreatDoor.AL
