/-
  Maps with string keys; and every operation but calls of functions in one table.
-/
import Derived.Test.YtlfpjdcogkcjlaaGreatDoorAL7
namespace Go.Proofs.YtlfpjdcogkcjlaaGreatDoor.AL
open Go.RowKit
set_option linter.unusedVariables false
set_option linter.unusedSimpArgs false
variable {P : Program} {C : Base}

theorem RepH.mine_lt {m : Places} {w : World} {H : Heap} (h : RepH C m w H) {o : Nat} {x : AObj} {b : Nat × Nat} (hx : H[o]? = some x) (hb : m[o]? = some b) (hg : x ≠ .gone) : b.1 < w.heap.size := by
  have hr := h.obj _ _ _ hx hb
  cases x with
  | own e cs => obtain ⟨_, arr, h1, _⟩ := hr; exact (Array.getElem?_eq_some_iff.1 h1).1
  | map es => obtain ⟨_, _, _, h1, _⟩ := hr; exact (Array.getElem?_eq_some_iff.1 h1).1
  | ro cs => have := hr.1; have := h.size; omega
  | gone => exact absurd rfl hg

/-- A new object, whatever it is. -/
theorem RepH.add {m : Places} {w : World} {H : Heap} (h : RepH C m w H) (ob : Obj) (x : AObj) (hx : relO C (m ++ [(w.heap.size, 0)]) (w.alloc ob) (w.heap.size, 0) x) :
    Fwd C m w (m ++ [(w.heap.size, 0)]) (w.alloc ob) (H ++ [x]) := by
  have hpre : m <+: m ++ [(w.heap.size, 0)] := List.prefix_append _ _
  have hs := szs_alloc w ob
  have split : ∀ (q : Nat) y b, (H ++ [x])[q]? = some y → (m ++ [(w.heap.size, 0)])[q]? = some b → (H[q]? = some y ∧ m[q]? = some b) ∨ (q = H.length ∧ y = x ∧ b = (w.heap.size, 0)) := by
    intro q y b hy hb
    by_cases hq : q < H.length
    · rw [List.getElem?_append_left hq] at hy
      rw [List.getElem?_append_left (by rw [h.len]; exact hq)] at hb
      exact .inl ⟨hy, hb⟩
    · have : q = H.length := by have := (List.getElem?_eq_some_iff.1 hy).1; simp at this; omega
      subst this
      rw [List.getElem?_append_right (by omega)] at hy
      rw [List.getElem?_append_right (by rw [h.len]; omega), h.len] at hb
      simp at hy hb
      exact .inr ⟨rfl, hy.symm, hb.symm⟩
  refine ⟨hpre, hs, ⟨h.below.alloc h.size _, by have := h.size; simp; omega, by simp [h.len], fun g hg => get_pre hpre (h.glob g hg), fun q y b hy hb => ?_, fun q q' y y' b b' hne hy hy' hb hb' hm hm' => ?_⟩⟩
  · rcases split q y b hy hb with ⟨h1, h2⟩ | ⟨_, rfl, rfl⟩
    · by_cases hg : y = .gone
      · subst hg; trivial
      · exact relO_pre (relO_far (h.obj q y b h1 h2) hs (Below.heap_alloc w _ b.1 (h.mine_lt h1 h2 hg))) hpre
    · exact hx
  · have hng : ∀ {y : AObj}, y.mine = true → y ≠ .gone := fun h e => by subst e; simp [AObj.mine] at h
    rcases split q y b hy hb with ⟨h1, h2⟩ | ⟨k1, rfl, rfl⟩ <;> rcases split q' y' b' hy' hb' with ⟨h3, h4⟩ | ⟨k2, rfl, rfl⟩
    · exact h.apart q q' y y' b b' hne h1 h3 h2 h4 hm hm'
    · have := h.mine_lt h1 h2 (hng hm); simp; omega
    · have := h.mine_lt h3 h4 (hng hm'); simp; omega
    · omega

/-- An object whose block alone turned, and that is of the call's own. -/
theorem RepH.turnTo {m : Places} {w w' : World} {H : Heap} (h : RepH C m w H) {o : Nat} {b : Nat × Nat} {x x' : AObj} (ho : H[o]? = some x) (hb : m[o]? = some b) (hxm : x.mine = true) (hxm' : x'.mine = true) (hB : C.B ≤ b.1)
    (hos : w'.os = w.os) (htape : w'.tape = w.tape) (hout : w'.output = w.output) (hsize : w'.heap.size = w.heap.size) (hfar : ∀ k, k ≠ b.1 → w'.heap[k]? = w.heap[k]?) (hs : Szs w w') (hnew : relO C m w' b x') :
    RepH C m w' (H.set o x') := by
  have hlt : o < H.length := (List.getElem?_eq_some_iff.1 ho).1
  have old : ∀ (q : Nat) y, (H.set o x')[q]? = some y → (q = o ∧ y = x') ∨ (q ≠ o ∧ H[q]? = some y) := by
    intro q y hy
    by_cases hq : q = o
    · subst hq
      rw [List.getElem?_set_self hlt] at hy
      exact .inl ⟨rfl, (Option.some.inj hy).symm⟩
    · rw [List.getElem?_set_ne (by omega)] at hy; exact .inr ⟨hq, hy⟩
  refine ⟨⟨hos.trans h.below.os, htape.trans h.below.tape, hout.trans h.below.output, by rw [hsize]; exact h.below.size, fun k hk => (hfar k (by omega)).trans (h.below.block k hk)⟩, by rw [hsize]; exact h.size, by simpa using h.len, h.glob, fun q y b' hy hb' => ?_, fun q q' y y' b1 b2 hne hy hy' h1 h2 hm hm' => ?_⟩
  · rcases old q y hy with ⟨rfl, rfl⟩ | ⟨hq, h1⟩
    · rw [hb] at hb'; obtain rfl := Option.some.inj hb'; exact hnew
    · have hr := h.obj _ _ _ h1 hb'
      by_cases hg : y = .gone
      · subst hg; trivial
      · refine relO_far hr hs (hfar _ ?_)
        cases hm : y.mine with
        | true => exact h.apart q o y x b' b hq h1 ho hb' hb hm hxm
        | false => have := relO_block hr hm hg; omega
  · rcases old q y hy with ⟨rfl, rfl⟩ | ⟨n1, k1⟩ <;> rcases old q' y' hy' with ⟨rfl, rfl⟩ | ⟨n2, k2⟩
    · omega
    · exact h.apart q q' x y' b1 b2 hne ho k2 h1 h2 hxm hm'
    · exact h.apart q q' y x b1 b2 hne k1 ho h1 h2 hm hxm
    · exact h.apart q q' y y' b1 b2 hne k1 k2 h1 h2 hm hm'

/-! ### maps -/
def isStrMap (P : Program) (t : TypeId) : Option TypeId :=
  match P.underlying t with
  | some (.map k e) => match P.underlying k with
    | some .string => some e
    | _ => none
  | _ => none
theorem isStrMap_spec {t e : TypeId} (h : isStrMap P t = some e) : ∃ k, P.underlying t = some (.map k e) ∧ P.underlying k = some .string := by
  unfold isStrMap at h
  split at h
  · rename_i k e' hu
    split at h
    · rename_i hk
      obtain rfl := Option.some.inj h
      exact ⟨k, hu, hk⟩
    · cases h
  · cases h

theorem beq_bytes (s k : ByteArray) : (s == k) = decide (s = k) := by
  cases s with
  | mk a => cases k with
    | mk b => show (a == b) = _; rw [Bool.eq_iff_iff]; simp [ByteArray.mk.injEq]
def findA (s : ByteArray) : List (ByteArray × AV) → Option AV
  | [] => none
  | (k, c) :: r => if s = k then some c else findA s r
theorem findNow_str (s : ByteArray) {m : Places} {w : World} : ∀ (es : List (ByteArray × AV)) (ens : List MapEntry) (i : Nat), ens.length = es.length → (∀ (j : Nat) k c, es[j]? = some (k, c) → ∃ en, ens[j]? = some en ∧ en.key = .string k ∧ rel m w c en.val) →
    (findA s es = none ∧ Instr.findNow .string (.string s) ens i = some none ∧ ∀ p ∈ es, p.1 ≠ s) ∨
    ∃ j c v, findA s es = some c ∧ Instr.findNow .string (.string s) ens i = some (some (i + j, v)) ∧ rel m w c v ∧ es[j]? = some (s, c) ∧ ∀ q, q < j → ∀ p, es[q]? = some p → p.1 ≠ s
  | [], ens, i, hl, _ => by
    obtain rfl := List.eq_nil_of_length_eq_zero hl
    exact .inl ⟨rfl, rfl, by simp⟩
  | (k, c) :: es, [], i, hl, _ => by simp at hl
  | (k, c) :: es, en :: ens, i, hl, h => by
    obtain ⟨en', h1, h2, h3⟩ := h 0 k c rfl
    simp at h1; subst h1
    by_cases hk : s = k
    · subst hk
      exact .inr ⟨0, c, en.val, by simp [findA], by simp [Instr.findNow, h2, Instr.sameNow, beq_bytes], h3, rfl, by simp⟩
    · have hne : Instr.sameNow .string (.string s) en.key = some false := by simp [h2, Instr.sameNow, beq_bytes, hk]
      rcases findNow_str s es ens (i + 1) (by simpa using hl) (fun j k c hj => by
        obtain ⟨e2, q1, q2, q3⟩ := h (j + 1) k c (by simpa using hj)
        exact ⟨e2, by simpa using q1, q2, q3⟩) with ⟨h4, h5, h6⟩ | ⟨j, c', v, h4, h5, h6, h7, h8⟩
      · refine .inl ⟨by simp [findA, hk, h4], by simp [Instr.findNow, hne, h5], ?_⟩
        intro p hp
        rcases List.mem_cons.1 hp with rfl | hp
        · exact fun e => hk e.symm
        · exact h6 p hp
      · refine .inr ⟨j + 1, c', v, by simp [findA, hk, h4], by rw [Instr.findNow]; simp only [hne]; rw [h5]; congr 3; omega, h6, by simpa using h7, ?_⟩
        intro q hq p hp
        cases q with
        | zero => simp at hp; subst hp; exact fun e => hk e.symm
        | succ q => exact h8 q (by omega) p (by simpa using hp)

theorem run_checkKey_str {k : TypeId} {s : ByteArray} {b : Bool} {w : World} (hk : P.underlying k = some .string) : (Instr.checkKey b 10000 k (.string s)).run P w = .ok () w := by
  show (Instr.checkKey b (9999 + 1) k (.string s)).run P w = .ok () w
  rw [Instr.checkKey, Sem.run_bind, run_underlying hk]; rfl

/-- a type's zero value -/
def zv (P : Program) (t : TypeId) : Option Value := (P.info? t).bind (·.zero)
theorem run_zv {t : TypeId} {z : Value} {w : World} (h : zv P t = some z) : (zeroValue t).run P w = .ok z w := by
  unfold zv at h
  obtain ⟨i, hi, hz⟩ := Option.bind_eq_some_iff.1 h
  simp [zeroValue, typeInfo, hi, hz]

def lookupA (P : Program) (t : TypeId) (x k : AV) (ok : Bool) (H : Heap) : Option AV :=
  match isStrMap P t, x, k with
  | some e, .mp o, .val (.string s) => match H[o]?, zv P e with
    | some (.map es), some z => match findA s es with
      | some c => some (if ok then .tup [c, .val (.bool true)] else c)
      | none => some (if ok then .tup [.val z, .val (.bool false)] else .val z)
    | _, _ => none
  | _, _, _ => none
theorem lookupA_run {t : TypeId} {x k c : AV} {ok : Bool} {H : Heap} (h : lookupA P t x k ok H = some c) {m : Places} {w : World} (hH : RepH C m w H) {u v : Value} (hx : rel m w x u) (hk : rel m w k v) :
    ∃ r, (Instr.lookup t u v ok).run P w = .ok r w ∧ rel m w c r := by
  unfold lookupA at h
  split at h
  · rename_i e o s hm
    obtain ⟨K, hu, hks⟩ := isStrMap_spec hm
    obtain ⟨b, hb, rfl⟩ := hx
    obtain rfl : v = .string s := hk
    split at h
    · rename_i es z ho hz
      obtain ⟨hB, ens, clock, hh, hsz, hen⟩ := hH.obj _ _ _ ho hb
      have hget : (getObj b.1).run P w = .ok (.map ens clock) w := by simp [getObj, Sem.run, hh]
      have hchk : (Instr.checkKey ens.isEmpty 10000 K (.string s)).run P w = .ok () w := run_checkKey_str hks
      have hgoal : ∀ (r : Option (Nat × Value)) (vv : Value) (bb : Bool), Instr.findNow .string (.string s) ens.toList 0 = some r → ((r = none ∧ vv = z ∧ bb = false) ∨ ∃ i, r = some (i, vv) ∧ bb = true) →
          (Instr.lookup t (.map (some b.1)) (.string s) ok).run P w = .ok (if ok then .tuple #[vv, .bool bb] else vv) w := by
        intro r vv bb hr hc
        unfold Instr.lookup
        simp only [Sem.run_bind, run_underlying hu, Result.andThen_ok, hget, Sem.run_pure, hchk, Instr.findKey, run_underlying hks, hr]
        rcases hc with ⟨rfl, rfl, rfl⟩ | ⟨i, rfl, rfl⟩
        · simp [run_zv hz]
        · simp
      rcases findNow_str (m := m) (w := w) s es ens.toList 0 (by simpa using hsz) (fun j k c hj => by
        obtain ⟨en, q1, q2, q3⟩ := hen j k c hj
        exact ⟨en, by simpa using q1, q2, q3⟩) with ⟨h4, h5, _⟩ | ⟨j, c', v, h4, h5, h6, _⟩
      · rw [h4] at h
        obtain rfl := Option.some.inj h
        refine ⟨_, hgoal none z false h5 (.inl ⟨rfl, rfl, rfl⟩), ?_⟩
        cases ok
        · exact rfl
        · exact ⟨_, rfl, rfl, rfl, trivial⟩
      · rw [h4] at h
        obtain rfl := Option.some.inj h
        refine ⟨_, hgoal _ v true h5 (.inr ⟨_, rfl, rfl⟩), ?_⟩
        cases ok
        · exact h6
        · exact ⟨_, rfl, h6, rfl, trivial⟩
    · cases h
  · cases h

def insertA (P : Program) (t : TypeId) (x k v : AV) (H : Heap) : Option Heap :=
  match isStrMap P t, x, k with
  | some e, .mp o, .val (.string s) => match H[o]? with
    | some (.map es) => match findA s es with
      | none => some (H.set o (.map (es ++ [(s, v)])))
      | some _ => none
    | _ => none
  | _, _, _ => none
theorem insertA_run {t : TypeId} {x k y : AV} {H H' : Heap} (h : insertA P t x k y H = some H') {m : Places} {w : World} (hH : RepH C m w H) {u v z : Value} (hx : rel m w x u) (hk : rel m w k v) (hy : rel m w y z) :
    ∃ w', (Instr.mapUpdate t u v z).run P w = .ok () w' ∧ Fwd C m w m w' H' := by
  unfold insertA at h
  split at h
  · rename_i e o s hm
    obtain ⟨K, hu, hks⟩ := isStrMap_spec hm
    obtain ⟨b, hb, rfl⟩ := hx
    obtain rfl : v = .string s := hk
    split at h
    · rename_i es ho
      split at h
      · rename_i hfind
        obtain rfl := Option.some.inj h
        obtain ⟨hB, ens, clock, hh, hsz, hen⟩ := hH.obj _ _ _ ho hb
        have hget : (getObj b.1).run P w = .ok (.map ens clock) w := by simp [getObj, Sem.run, hh]
        have hlt : b.1 < w.heap.size := (Array.getElem?_eq_some_iff.1 hh).1
        rcases findNow_str (m := m) (w := w) s es ens.toList 0 (by simpa using hsz) (fun j k c hj => by
          obtain ⟨en, q1, q2, q3⟩ := hen j k c hj
          exact ⟨en, by simpa using q1, q2, q3⟩) with ⟨h4, h5, _⟩ | ⟨j, c', v, h4, _⟩
        · have hfk : (Instr.findKey K (.string s) ens.toList).run P w = .ok none w := by simp [Instr.findKey, run_underlying hks, h5]
          refine ⟨{ w with heap := w.heap.setIfInBounds b.1 (.map (ens.push { key := .string s, val := z, born := clock }) (clock + 1)) }, ?_, List.prefix_refl m, ?_, ?_⟩
          · unfold Instr.mapUpdate
            simp only [Sem.run_bind, run_underlying hu, Result.andThen_ok, hget, run_checkKey_str hks, hfk]
            simp [setObj, Sem.run, hh]
          · intro k a e' fr hka
            refine ⟨a, ?_, rfl⟩
            by_cases hkb : k = b.1
            · subst hkb; rw [hh] at hka; cases hka
            · simp only [Array.getElem?_setIfInBounds_ne (Ne.symm hkb)]; exact hka
          · have hs : Szs w { w with heap := w.heap.setIfInBounds b.1 (.map (ens.push { key := .string s, val := z, born := clock }) (clock + 1)) } := by
              intro k a e' fr hka
              refine ⟨a, ?_, rfl⟩
              by_cases hkb : k = b.1
              · subst hkb; rw [hh] at hka; cases hka
              · simp only [Array.getElem?_setIfInBounds_ne (Ne.symm hkb)]; exact hka
            refine hH.turnTo ho hb rfl rfl hB rfl rfl rfl (by simp) (fun k hk => by simp only [Array.getElem?_setIfInBounds_ne (Ne.symm hk)]) hs ⟨hB, ens.push { key := .string s, val := z, born := clock }, clock + 1, ?_, ?_, ?_⟩
            · simp [hlt]
            · simp [hsz]
            · intro j k c hj
              by_cases hjl : j < es.length
              · rw [List.getElem?_append_left hjl] at hj
                obtain ⟨en, q1, q2, q3⟩ := hen j k c hj
                exact ⟨en, by rw [Array.getElem?_push_lt (by omega)]; rw [← q1, Array.getElem?_eq_getElem (by omega)], q2, rel_more (List.prefix_refl m) hs q3⟩
              · have : j = es.length := by have := (List.getElem?_eq_some_iff.1 hj).1; simp at this; omega
                subst this
                rw [List.getElem?_append_right (by omega)] at hj
                simp at hj
                obtain ⟨rfl, rfl⟩ := hj
                exact ⟨_, by rw [← hsz]; exact Array.getElem?_push_size, rfl, rel_more (List.prefix_refl m) hs hy⟩
        · rw [hfind] at h4; cases h4
      · cases h
    · cases h
  · cases h
end Go.Proofs.YtlfpjdcogkcjlaaGreatDoor.AL
