/-
  Slices: literals, make, cuts, elements' addresses, append; fields.
-/
import Derived.Test.YtlfpjdcogkcjlaaGreatDoorAL4
namespace Go.Proofs.YtlfpjdcogkcjlaaGreatDoor.AL
open Go.RowKit
set_option linter.unusedVariables false
set_option linter.unusedSimpArgs false
variable {P : Program} {C : Base}

theorem el_spec {t e st bytes : Nat} {z : List Value} (h : el P t = some (e, st, bytes, z)) :
    P.underlying t = some (.slice e) ∧ ∃ i zv, P.info? e = some i ∧ i.zero = some zv ∧ zv.cells.size = i.size ∧ i.size = st ∧ i.bytes = bytes ∧ zv.cells.toList = z ∧ 0 < st ∧ ∀ u ∈ z, u.oneCell' = true := by
  unfold el at h
  split at h
  · rename_i e' hu
    split at h
    · rename_i i hi
      split at h
      · rename_i zv hz
        split at h
        · rename_i hc
          simp only [Option.some.injEq, Prod.mk.injEq] at h
          obtain ⟨rfl, rfl, rfl, rfl⟩ := h
          exact ⟨hu, i, zv, hi, hz, hc.1, rfl, rfl, rfl, hc.2.1, fun u hu => by have := hc.2.2; rw [← Array.all_toList] at this; exact List.all_eq_true.1 this u hu⟩
        · cases h
      · cases h
    · cases h
  · cases h

/-- n elements' zeros -/
def zerosN (z : List Value) : Nat → List AV
  | 0 => []
  | k + 1 => zerosN z k ++ z.map .val
theorem zerosN_length (z : List Value) : ∀ k, (zerosN z k).length = k * z.length
  | 0 => by simp [zerosN]
  | k + 1 => by simp [zerosN, zerosN_length z k, Nat.succ_mul]
theorem zerosN_get (z : List Value) (h : 0 < z.length) : ∀ (k j : Nat), j < k * z.length → (zerosN z k)[j]? = some (.val (z.getD (j % z.length) undef))
  | 0, j, hj => by simp at hj
  | k + 1, j, hj => by
    rw [zerosN]
    by_cases hlt : j < k * z.length
    · rw [List.getElem?_append_left (by rw [zerosN_length]; exact hlt)]; exact zerosN_get z h k j hlt
    · rw [List.getElem?_append_right (by rw [zerosN_length]; omega), zerosN_length]
      have h1 : j % z.length = j - k * z.length := by
        obtain ⟨r, rfl⟩ : ∃ r, j = k * z.length + r := ⟨j - k * z.length, by omega⟩
        have : r < z.length := by rw [Nat.succ_mul] at hj; omega
        rw [Nat.mul_comm, Nat.mul_add_mod, Nat.mod_eq_of_lt this]; omega
      have h2 : j - k * z.length < z.length := by rw [Nat.succ_mul] at hj; omega
      simp [List.getElem?_map, h1, List.getElem?_eq_getElem h2]

/-- the machine's row of zeros -/
theorem zeros_rel (m : Places) (w : World) (zv : Value) (n st : Nat) (hst : zv.cells.size = st) (h0 : 0 < st) :
    rels m w (zerosN zv.cells.toList n) ((Array.range (n * st)).map fun x => zv.cells[x % zv.cells.size]!).toList := by
  refine rels_of_get (by simp [zerosN_length, hst]) fun j c u hc hu => ?_
  have hl : zv.cells.toList.length = st := by simpa using hst
  have hj : j < n * st := by
    have := (List.getElem?_eq_some_iff.1 hu).1
    simpa using this
  rw [zerosN_get _ (by omega) n j (by rw [hl]; exact hj)] at hc
  obtain rfl := Option.some.inj hc
  rw [Array.getElem?_toList, Array.getElem?_map, Array.getElem?_range, if_pos hj] at hu
  simp only [Option.map_some, Option.some.injEq] at hu
  have hm : j % st < zv.cells.size := by rw [hst]; exact Nat.mod_lt _ h0
  show u = _
  rw [← hu]
  simp only [Array.length_toList, hst, List.getD_eq_getElem?_getD, Array.getElem?_toList]
  rw [getElem!_pos zv.cells (j % st) hm, Array.getElem?_eq_getElem hm]
  rfl

def buildSliceA (P : Program) (t len : Nat) (parts : List (Nat × List AV)) (H : Heap) : Ans :=
  match el P t with
  | some (e, st, _, z) => if len * st ≤ 16777216 then match fillA (fun i => some (i * st, st)) (zerosN z len) parts with
      | some cs => if cs.length = len * st then some (.sl true H.length 0 len st, H ++ [.own e cs]) else none
      | none => none
    else none
  | none => none

theorem own_slice_rel {m : Places} {w : World} {H : Heap} (hH : RepH C m w H) (e len st cap : Nat) (arr : Array Value) (hl : len ≤ cap) (hc : cap ≤ 9223372036854775807) (ha : arr.size = cap * st) :
    rel (m ++ [(w.heap.size, 0)]) (w.alloc (.cells arr e)) (.sl true H.length 0 len st) (.slice (some ⟨w.heap.size, 0, none⟩) len cap) := by
  refine ⟨(w.heap.size, 0), ⟨w.heap.size, 0, none⟩, cap, ?_, rfl, hl, hc, fun _ => ⟨rfl, arr, e, (0, 0), heap_alloc_new w _, ?_⟩, fun _ => .inr ⟨rfl, arr, e, (0, 0), heap_alloc_new w _, ?_⟩⟩
  · rw [← hH.len]; simp
  · simp [ha]
  · simp [ha]

theorem buildSliceA_run {t len : Nat} {r : List (Nat × List AV)} {H H' : Heap} {c : AV} (h : buildSliceA P t len r H = some (c, H')) {m : Places} {w : World} (hH : RepH C m w H) {ps : Array (Nat × Value)} (hp : PartsRel m w r ps.toList) :
    ∃ u m' w', (Instr.buildSlice t len ps).run P w = .ok u w' ∧ Fwd C m w m' w' H' ∧ rel m' w' c u := by
  unfold buildSliceA at h
  split at h
  · rename_i e st bytes z hel
    split at h
    · rename_i hbig
      split at h
      · rename_i cs hcs
        split at h
        · rename_i hlen
          simp only [Option.some.injEq, Prod.mk.injEq] at h
          obtain ⟨rfl, rfl⟩ := h
          obtain ⟨hu, i, zv, hi, hz, hsz, hst, _, hzl, h0, hone⟩ := el_spec hel
          subst hzl
          have hlz : zv.cells.toList.length = st := by simp; omega
          obtain ⟨us, h3, h4⟩ := fillA_fill hp (zeros_rel m w zv len st (by omega) h0) hcs
          have hus : us.size = len * st := by have := rels_length h4; simp at this; omega
          have hf := hH.new e (arr := us) (cs := cs) (fun j c hj => by
            obtain ⟨v, h5, h6⟩ := rels_get h4 j c hj
            exact ⟨v, by simpa using h5, h6⟩) (by omega)
          refine ⟨.slice (some ⟨w.heap.size, 0, none⟩) len len, _, _, ?_, hf, own_slice_rel hH e len st len us (Nat.le_refl _) (by have := Nat.le_mul_of_pos_right len h0; omega) hus⟩
          have hzr : (zeroValue e).run P w = .ok zv w := by simp [zeroValue, typeInfo, hi, hz]
          have hb : ¬ len * st > 2 ^ 24 := by omega
          unfold Instr.buildSlice
          simp only [Sem.run_bind, run_underlying hu, Result.andThen_ok, run_sizeOf hi, hst]
          rw [if_neg hb]
          by_cases hz0 : len * st = 0
          · rw [if_pos hz0]
            simp only [Sem.run_bind, Sem.run_pure, Result.andThen_ok]
            have h5 : (Array.range (len * st)).map (fun x => (#[] : Array Value)[x % (#[] : Array Value).size]!) = (Array.range (len * st)).map (fun x => zv.cells[x % zv.cells.size]!) := by rw [hz0]; simp
            rw [h5, h3]
            simp [newRow, run_newObj]
          · rw [if_neg hz0]
            simp only [Sem.run_bind, hzr, Sem.run_pure, Result.andThen_ok]
            rw [h3]
            simp [newRow, run_newObj]
        · cases h
      · cases h
    · cases h
  · cases h

def makeSliceA (P : Program) (t : TypeId) (len cap : AV) (H : Heap) : Ans :=
  match el P t, len, cap with
  | some (e, st, bytes, z), .val (.int kl n), .val (.int kc c) => if 0 ≤ n ∧ n ≤ c ∧ bytes * c ≤ 281474976710656 ∧ c ≤ 9223372036854775807 then some (.sl true H.length 0 n.toNat st, H ++ [.own e (zerosN z n.toNat)]) else none
  | _, _, _ => none

theorem makeSliceA_run {t : TypeId} {x y : AV} {H H' : Heap} {c : AV} (h : makeSliceA P t x y H = some (c, H')) {m : Places} {w : World} (hH : RepH C m w H) {u v : Value} (hx : rel m w x u) (hy : rel m w y v) :
    ∃ r m' w', (Instr.makeSlice t u v).run P w = .ok r w' ∧ Fwd C m w m' w' H' ∧ rel m' w' c r := by
  unfold makeSliceA at h
  split at h
  · rename_i e st bytes z kl n kc c' hel
    obtain rfl : u = .int kl n := hx
    obtain rfl : v = .int kc c' := hy
    split at h
    · rename_i hc
      simp only [Option.some.injEq, Prod.mk.injEq] at h
      obtain ⟨rfl, rfl⟩ := h
      obtain ⟨hu, i, zv, hi, hz, hsz, hst, hby, hzl, h0, hone⟩ := el_spec hel
      subst hzl
      obtain ⟨n, rfl⟩ := Int.eq_ofNat_of_zero_le hc.1
      obtain ⟨k, rfl⟩ := Int.eq_ofNat_of_zero_le (show 0 ≤ c' by omega)
      have hrun := run_make (P := P) w t e i zv hu hi hz kl kc n k (by omega) (by omega) (by rw [hby]; exact hc.2.2.1) (by omega)
      simp only [Int.toNat_natCast] at hrun ⊢
      have hr := zeros_rel m w zv k st (by omega) h0
      have hms : (madeCells zv.cells (k * i.size)) = (Array.range (k * st)).map fun x => zv.cells[x % zv.cells.size]! := by rw [hst]; rfl
      rw [hms] at hrun
      have hf := hH.new e (arr := (Array.range (k * st)).map fun x => zv.cells[x % zv.cells.size]!) (cs := zerosN zv.cells.toList n) (fun j c hj => by
        have hlz : zv.cells.toList.length = st := by simp; omega
        have hj2 : j < n * st := by have := (List.getElem?_eq_some_iff.1 hj).1; rwa [zerosN_length, hlz] at this
        have hnk : n * st ≤ k * st := Nat.mul_le_mul_right _ (by omega)
        rw [zerosN_get _ (by omega) n j (by rw [hlz]; exact hj2)] at hj
        obtain ⟨v, h5, h6⟩ := rels_get hr j c (by rw [zerosN_get _ (by omega) k j (by rw [hlz]; omega)]; exact hj)
        exact ⟨v, by rw [← Array.getElem?_toList]; exact h5, h6⟩) (by
          have hnk : n * st ≤ k * st := Nat.mul_le_mul_right _ (by omega)
          have hlz : zv.cells.toList.length = st := by simp; omega
          rw [zerosN_length, hlz]; simpa using hnk)
      exact ⟨_, _, _, hrun, hf, own_slice_rel hH e n st k _ (by omega) (by omega) (by simp)⟩
    · cases h
  · cases h

/-- 's[lo:hi]' of a slice -/
def boundA (d : Nat) : Option AV → Option Nat
  | none => some d
  | some (.val (.int _ i)) => if 0 ≤ i then some i.toNat else none
  | _ => none
def sliceA (P : Program) (t : TypeId) (x : AV) (lo hi : Option AV) (H : Heap) : Ans :=
  match x with
  | .sl own o off len st => match el P t, boundA 0 lo, boundA len hi with
    | some (_, st', _, _), some l, some h => if l ≤ h ∧ h ≤ len ∧ st' = st then some (.sl own o (off + l * st) (h - l) st, H) else none
    | _, _, _ => none
  | .val (.slice none 0 0) => match el P t, boundA 0 lo, boundA 0 hi with
    | some _, some 0, some 0 => some (.val (.slice none 0 0), H)
    | _, _, _ => none
  | .val (.string s) => match P.underlying t, boundA 0 lo, boundA s.size hi with
    | some .string, some l, some h => if l ≤ h ∧ h ≤ s.size then some (.val (.string (s.extract l h)), H) else none
    | _, _, _ => none
  | _ => none

theorem run_sliceAt {t : TypeId} {x : Value} {lo hi mx : Option Value} {w : World} {d : TypeDesc} (h : P.underlying t = some d) (hn : ∀ n e, d ≠ .array n e) : (Instr.sliceAt t x lo hi mx).run P w = (Instr.slice t x lo hi mx).run P w := by
  unfold Instr.sliceAt
  rw [Sem.run_bind, run_underlying h, Result.andThen_ok]
  cases d <;> simp_all

theorem run_sliceBounds_ok {isSlice : Bool} {len cap l h : Nat} {lo hi : Option Value} {w : World} (hl : (lo = none ∧ l = 0) ∨ ∃ k, lo = some (.int k (l : Int))) (hh : (hi = none ∧ h = len) ∨ ∃ k, hi = some (.int k (h : Int))) (h1 : l ≤ h) (h2 : h ≤ cap) :
    (Instr.sliceBounds isSlice len cap lo hi none).run P w = .ok (l, h, cap) w := by
  rcases hl with ⟨rfl, rfl⟩ | ⟨k, rfl⟩ <;> rcases hh with ⟨rfl, rfl⟩ | ⟨k', rfl⟩
  · simp [Instr.sliceBounds]
  · simp [Instr.sliceBounds, run_sliceBound (P := P) _ k' h cap _ (by omega) (by omega)]
  · simp [Instr.sliceBounds, run_sliceBound (P := P) _ k l h _ (by omega) (by omega)]
  · simp [Instr.sliceBounds, run_sliceBound (P := P) _ k' h cap _ (by omega) (by omega), run_sliceBound (P := P) _ k l h _ (by omega) (by omega)]

def relOpt (m : Places) (w : World) : Option AV → Option Value → Prop
  | none, none => True
  | some c, some u => rel m w c u
  | _, _ => False
theorem boundA_rel {d n : Nat} {x : Option AV} {m : Places} {w : World} {v : Option Value} (h : boundA d x = some n) (hr : relOpt m w x v) :
    (v = none ∧ n = d) ∨ ∃ k, v = some (.int k (n : Int)) := by
  cases x with
  | none => cases v with
    | none => exact .inl ⟨rfl, (Option.some.inj h).symm⟩
    | some _ => exact hr.elim
  | some c => cases v with
    | none => exact hr.elim
    | some u => cases c with
      | val x => cases x with
        | int k i =>
          obtain rfl : u = .int k i := hr
          simp only [boundA] at h
          split at h
          · rename_i h0
            obtain rfl := Option.some.inj h
            exact .inr ⟨k, by rw [Int.toNat_of_nonneg h0]⟩
          · cases h
        | _ => simp [boundA] at h
      | _ => simp [boundA] at h

theorem Room.mono {w : World} {b n k : Nat} (h : Room w b n) (hk : k ≤ n) : Room w b k := by
  obtain ⟨arr, e, fr, h1, h2⟩ := h
  exact ⟨arr, e, fr, h1, by omega⟩

theorem sliceA_run {t : TypeId} {x : AV} {lo hi : Option AV} {H H' : Heap} {c : AV} (h : sliceA P t x lo hi H = some (c, H')) {m : Places} {w : World} {u : Value} {vl vh : Option Value}
    (hx : rel m w x u) (hl : relOpt m w lo vl) (hh : relOpt m w hi vh) : H' = H ∧ ∃ r, (Instr.sliceAt t u vl vh none).run P w = .ok r w ∧ rel m w c r := by
  unfold sliceA at h
  split at h
  · rename_i own o off len st
    obtain ⟨b, a, cap, hb, rfl, hlc, hc63, hroom, hfull⟩ := hx
    split at h
    · rename_i e st' by' z l hi' hel hbl hbh
      split at h
      · rename_i hc
        obtain ⟨hlh, hhl, rfl⟩ := hc
        simp only [Option.some.injEq, Prod.mk.injEq] at h
        obtain ⟨rfl, rfl⟩ := h
        obtain ⟨hu, i, zv, hi, hz, hsz, hst, _, hzl, h0, _⟩ := el_spec hel
        have hbnd := run_sliceBounds_ok (P := P) (isSlice := true) (len := len) (cap := cap) (w := w) (boundA_rel hbl hl) (boundA_rel hbh hh) hlh (by omega)
        refine ⟨rfl, .slice (if cap = l then some a else (some a).map (·.add (l * st'))) (hi' - l) (cap - l), ?_, ?_⟩
        · rw [run_sliceAt hu (by simp)]
          unfold Instr.slice
          simp only [Sem.run_bind, run_underlying hu, Result.andThen_ok, hbnd, run_sizeOf hi, hst, Sem.run_pure]
        · by_cases hcl : cap = l
          · rw [if_pos hcl]
            refine ⟨b, a, cap - l, hb, rfl, by omega, by omega, fun h => by omega, fun ho => ?_⟩
            rcases Nat.eq_zero_or_pos l with hl0 | hl0
            · subst hl0
              rcases hfull ho with h1 | ⟨h1, h2⟩
              · exact .inl ⟨by omega, by omega⟩
              · exact .inr ⟨by simpa using h1, by simpa using h2⟩
            · exact .inl ⟨by omega, by have := Nat.mul_pos hl0 h0; omega⟩
          · rw [if_neg hcl]
            obtain ⟨ha, hr⟩ := hroom (by omega)
            subst ha
            have e1 : b.2 + (off + l * st') + (cap - l) * st' = b.2 + off + cap * st' := by
              obtain ⟨k, rfl⟩ : ∃ k, cap = l + k := ⟨cap - l, by omega⟩
              rw [Nat.add_sub_cancel_left, Nat.add_mul]; omega
            refine ⟨b, ⟨b.1, b.2 + (off + l * st'), none⟩, cap - l, hb, ?_, by omega, by omega, fun _ => ⟨rfl, by rw [e1]; exact hr⟩, fun ho => .inr ⟨rfl, by rw [e1]; exact (hfull ho).elim (fun h1 => absurd h1.1 (by omega)) (fun h1 => h1.2)⟩⟩
            simp only [Option.map_some, add_at, Nat.add_assoc]
      · cases h
    · cases h
  · obtain rfl : u = .slice none 0 0 := hx
    split at h
    · rename_i q hel hbl hbh
      obtain ⟨e, st, by', z⟩ := q
      simp only [Option.some.injEq, Prod.mk.injEq] at h
      obtain ⟨rfl, rfl⟩ := h
      obtain ⟨hu, i, zv, hi, hz, hsz, hst, _, hzl, h0, _⟩ := el_spec hel
      have hbnd := run_sliceBounds_ok (P := P) (isSlice := true) (len := 0) (cap := 0) (w := w) (boundA_rel hbl hl) (boundA_rel hbh hh) (Nat.le_refl _) (Nat.le_refl _)
      refine ⟨rfl, .slice none 0 0, ?_, rfl⟩
      rw [run_sliceAt hu (by simp)]
      unfold Instr.slice
      simp only [Sem.run_bind, run_underlying hu, Result.andThen_ok, hbnd, run_sizeOf hi, hst, Sem.run_pure]
      simp
    · cases h
  · rename_i s
    obtain rfl : u = .string s := hx
    split at h
    · rename_i l hi' hu hbl hbh
      split at h
      · rename_i hc
        simp only [Option.some.injEq, Prod.mk.injEq] at h
        obtain ⟨rfl, rfl⟩ := h
        have hbnd := run_sliceBounds_ok (P := P) (isSlice := false) (len := s.size) (cap := s.size) (w := w) (boundA_rel hbl hl) (boundA_rel hbh hh) hc.1 hc.2
        refine ⟨rfl, .string (s.extract l hi'), ?_, rfl⟩
        rw [run_sliceAt hu (by simp)]
        unfold Instr.slice
        simp only [Sem.run_bind, run_underlying hu, Result.andThen_ok, hbnd, Sem.run_pure]
        simp [hbnd]
      · cases h
    · cases h
  · cases h

/-- an array type's length and element's cells -/
def ar (P : Program) (t : TypeId) : Option (Nat × Nat) :=
  match P.underlying t with
  | some (.array n e) => (P.info? e).map fun i => (n, i.size)
  | _ => none
def indexAddrA (P : Program) (t : TypeId) (x i : AV) (H : Heap) : Ans :=
  match x, i with
  | .sl own o off len st, .val (.int k n) => match el P t with
    | some (_, st', _, _) => if 0 ≤ n ∧ n < len ∧ st' = st then some (.ptr o (off + n.toNat * st), H) else none
    | none => none
  | .ptr o off, .val (.int k n) => match ar P t with
    | some (len, st) => if 0 ≤ n ∧ n < len then some (.ptr o (off + n.toNat * st), H) else none
    | none => none
  | _, _ => none
theorem run_asIntOf {k : IntKind} {n : Int} {w : World} : (asIntOf (.int k n)).run P w = .ok (k, n) w := rfl
theorem indexAddrA_run {t : TypeId} {x i : AV} {H H' : Heap} {c : AV} (h : indexAddrA P t x i H = some (c, H')) {m : Places} {w : World} {u v : Value} (hx : rel m w x u) (hi : rel m w i v) :
    H' = H ∧ ∃ r, (Instr.indexAt t u v).run P w = .ok r w ∧ rel m w c r := by
  unfold indexAddrA at h
  split at h
  · rename_i own o off len st k n
    obtain ⟨b, a, cap, hb, rfl, hlc, hc63, hroom, hfull⟩ := hx
    obtain rfl : v = .int k n := hi
    split at h
    · rename_i e st' by' z hel
      split at h
      · rename_i hc
        obtain ⟨h0, hn, rfl⟩ := hc
        simp only [Option.some.injEq, Prod.mk.injEq] at h
        obtain ⟨rfl, rfl⟩ := h
        obtain ⟨hu, i, zv, hi, hz, hsz, hst, _, hzl, _, _⟩ := el_spec hel
        obtain ⟨ha, _⟩ := hroom (by omega)
        subst ha
        refine ⟨rfl, .pointer (some ⟨b.1, b.2 + (off + n.toNat * st'), none⟩), ?_, b, hb, rfl⟩
        unfold Instr.indexAt
        simp only [Sem.run_bind, run_asIntOf, run_underlying hu, Result.andThen_ok, Sem.run_pure]
        rw [if_pos ⟨h0, by simpa using hn⟩]
        simp only [Sem.run_bind, run_sizeOf hi, hst, Result.andThen_ok, Sem.run_pure, add_at, Nat.add_assoc]
      · cases h
    · cases h
  · rename_i o off k n
    obtain ⟨b, hb, rfl⟩ := hx
    obtain rfl : v = .int k n := hi
    split at h
    · rename_i len st har
      split at h
      · rename_i hc
        simp only [Option.some.injEq, Prod.mk.injEq] at h
        obtain ⟨rfl, rfl⟩ := h
        unfold ar at har
        split at har
        · rename_i n' e hu
          obtain ⟨i, hi, he⟩ := Option.map_eq_some_iff.1 har
          simp only [Prod.mk.injEq] at he
          obtain ⟨rfl, rfl⟩ := he
          refine ⟨rfl, .pointer (some ⟨b.1, b.2 + (off + n.toNat * i.size), none⟩), ?_, b, hb, rfl⟩
          unfold Instr.indexAt
          simp only [Sem.run_bind, run_asIntOf, run_underlying hu, Result.andThen_ok, Sem.run_pure, Instr.sureAddr]
          rw [if_pos ⟨hc.1, by simpa using hc.2⟩]
          simp only [Sem.run_bind, run_sizeOf hi, Result.andThen_ok, Sem.run_pure, add_at, Nat.add_assoc]
        · cases har
      · cases h
    · cases h
  · cases h

def fieldAddrA (P : Program) (s : TypeId) (x : AV) (f : Nat) (H : Heap) : Ans :=
  match x, fo P s f with
  | .ptr o off, some k => some (.ptr o (off + k), H)
  | _, _ => none
theorem fieldAddrA_run {s f : Nat} {x : AV} {H H' : Heap} {c : AV} (h : fieldAddrA P s x f H = some (c, H')) {m : Places} {w : World} {u : Value} (hx : rel m w x u) :
    H' = H ∧ ∃ r, (Instr.fieldAt s u f).run P w = .ok r w ∧ rel m w c r := by
  unfold fieldAddrA at h
  split at h
  · rename_i o off k hfo
    obtain ⟨b, hb, rfl⟩ := hx
    simp only [Option.some.injEq, Prod.mk.injEq] at h
    obtain ⟨rfl, rfl⟩ := h
    unfold fo at hfo
    split at hfo
    · rename_i fs hu
      split at hfo
      · rename_i y hy
        split at hfo
        · rename_i i hi
          split at hfo
          · cases hfo
          · rename_i hne
            obtain rfl := Option.some.inj hfo
            refine ⟨rfl, .pointer (some ⟨b.1, b.2 + (off + y.offset), none⟩), ?_, b, hb, rfl⟩
            unfold Instr.fieldAt
            simp only [Sem.run_bind, run_underlying hu, Result.andThen_ok, hy, Instr.sureAddr, Sem.run_pure, fieldPlace, run_sizeOf hi]
            rw [if_neg hne]
            simp only [Sem.run_bind, Sem.run_pure, Result.andThen_ok, add_at, Nat.add_assoc]
        · cases hfo
      · cases hfo
    · cases hfo
  · cases h
end Go.Proofs.YtlfpjdcogkcjlaaGreatDoor.AL
