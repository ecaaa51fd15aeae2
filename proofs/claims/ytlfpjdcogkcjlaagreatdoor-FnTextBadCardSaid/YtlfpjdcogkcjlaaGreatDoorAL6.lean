/-
  append over abstract states.
-/
import Derived.Test.YtlfpjdcogkcjlaaGreatDoorAL5
namespace Go.Proofs.YtlfpjdcogkcjlaaGreatDoor.AL
open Go.RowKit
set_option linter.unusedVariables false
set_option linter.unusedSimpArgs false
variable {P : Program} {C : Base}

theorem szs_drew (w : World) : Szs w w.drew := fun b a e fr h => ⟨a, h, rfl⟩
theorem szs_drewN (w : World) (n : Nat) : Szs w (w.drewN n) := fun b a e fr h => ⟨a, h, rfl⟩
theorem RepH.drew {m : Places} {w : World} {H : Heap} (h : RepH C m w H) : RepH C m w.drew H := ⟨h.below.drew, h.size, h.len, h.glob, fun o x b hx hb => relO_far (h.obj o x b hx hb) (szs_drew w) rfl, h.apart⟩
theorem RepH.drewN {m : Places} {w : World} {H : Heap} (h : RepH C m w H) (n : Nat) : RepH C m (w.drewN n) H := ⟨⟨h.below.os, h.below.tape, h.below.output, h.below.size, h.below.block⟩, h.size, h.len, h.glob, fun o x b hx hb => relO_far (h.obj o x b hx hb) (szs_drewN w n) rfl, h.apart⟩
theorem RepH.kill {m : Places} {w : World} {H : Heap} (h : RepH C m w H) (o : Nat) : RepH C m w (H.set o .gone) := by
  have aux : ∀ (q : Nat) x, (H.set o .gone)[q]? = some x → x = .gone ∨ H[q]? = some x := by
    intro q x hx
    by_cases hq : q = o
    · subst hq
      rcases Nat.lt_or_ge q H.length with h1 | h1
      · rw [List.getElem?_set_self h1] at hx; exact .inl (Option.some.inj hx).symm
      · rw [List.getElem?_eq_none (by simpa using h1)] at hx; cases hx
    · rw [List.getElem?_set_ne (by omega)] at hx; exact .inr hx
  refine ⟨h.below, h.size, by simpa using h.len, h.glob, fun q x b hx hb => ?_, fun q q' x x' b b' hne hx hx' hb hb' hm hm' => ?_⟩
  · rcases aux q x hx with rfl | h1
    · trivial
    · exact h.obj q x b h1 hb
  · rcases aux q x hx with rfl | h1
    · simp [AObj.mine] at hm
    · rcases aux q' x' hx' with rfl | h2
      · simp [AObj.mine] at hm'
      · exact h.apart q q' x x' b b' hne h1 h2 hb hb' hm hm'

theorem relO_pre {m m' : Places} {w : World} {b : Nat × Nat} {x : AObj} (h : relO C m w b x) (hp : m <+: m') : relO C m' w b x := by
  cases x with
  | ro cs => exact ⟨h.1, fun j c hj => by obtain ⟨v, h1, h2⟩ := h.2 j c hj; exact ⟨v, h1, rel_more hp (Szs.refl _) h2⟩⟩
  | own e cs => obtain ⟨h0, a, h1, h2, h3⟩ := h; exact ⟨h0, a, h1, h2, fun j c hj => by obtain ⟨v, h4, h5⟩ := h3 j c hj; exact ⟨v, h4, rel_more hp (Szs.refl _) h5⟩⟩
  | map es => obtain ⟨h0, a, c, h1, h2, h3⟩ := h; exact ⟨h0, a, c, h1, h2, fun j k c hj => by obtain ⟨v, h4, h5, h6⟩ := h3 j k c hj; exact ⟨v, h4, h5, rel_more hp (Szs.refl _) h6⟩⟩
  | gone => trivial

theorem RepH.rename {m : Places} {w : World} {H : Heap} (h : RepH C m w H) {o : Nat} {e : TypeId} {cs : List AV} {b : Nat × Nat} (ho : H[o]? = some (.own e cs)) (hb : m[o]? = some b) :
    RepH C (m ++ [b]) w (H.set o .gone ++ [.own e cs]) := by
  have hk := h.kill o
  have hl : (H.set o .gone).length = m.length := hk.len.symm
  have hp : m <+: m ++ [b] := List.prefix_append _ _
  have split : ∀ (q : Nat) x b', (H.set o .gone ++ [AObj.own e cs])[q]? = some x → (m ++ [b])[q]? = some b' → (q < m.length ∧ (H.set o .gone)[q]? = some x ∧ m[q]? = some b') ∨ (q = m.length ∧ x = .own e cs ∧ b' = b) := by
    intro q x b' hx hb'
    by_cases hq : q < m.length
    · rw [List.getElem?_append_left (by omega)] at hx
      rw [List.getElem?_append_left hq] at hb'
      exact .inl ⟨hq, hx, hb'⟩
    · have : q = m.length := by have := (List.getElem?_eq_some_iff.1 hb').1; simp at this; omega
      subst this
      rw [List.getElem?_append_right (by omega), hl] at hx
      rw [List.getElem?_append_right (by omega)] at hb'
      simp at hx hb'
      exact .inr ⟨rfl, hx.symm, hb'.symm⟩
  have old : ∀ (q : Nat) x, (H.set o .gone)[q]? = some x → x.mine = true → q ≠ o ∧ H[q]? = some x := by
    intro q x hx hm
    by_cases hq : q = o
    · subst hq
      rw [List.getElem?_set_self (List.getElem?_eq_some_iff.1 ho).1] at hx
      obtain rfl := Option.some.inj hx
      simp [AObj.mine] at hm
    · rw [List.getElem?_set_ne (by omega)] at hx; exact ⟨hq, hx⟩
  refine ⟨h.below, h.size, by simp [h.len], fun g hg => get_pre hp (h.glob g hg), fun q x b' hx hb' => ?_, fun q q' x x' b1 b2 hne hx hx' h1 h2 hm hm' => ?_⟩
  · rcases split q x b' hx hb' with ⟨_, h1, h2⟩ | ⟨_, rfl, rfl⟩
    · exact relO_pre (hk.obj q x b' h1 h2) hp
    · exact relO_pre (h.obj o _ _ ho hb) hp
  · rcases split q x b1 hx h1 with ⟨_, k1, k2⟩ | ⟨k0, rfl, rfl⟩ <;> rcases split q' x' b2 hx' h2 with ⟨_, k3, k4⟩ | ⟨k5, rfl, rfl⟩
    · exact hk.apart q q' x x' b1 b2 hne k1 k3 k2 k4 hm hm'
    · obtain ⟨n1, n2⟩ := old q x k1 hm
      exact h.apart q o x _ b1 _ n1 n2 ho k2 hb hm rfl
    · obtain ⟨n1, n2⟩ := old q' x' k3 hm'
      exact (h.apart q' o x' _ b2 _ n1 n2 ho k4 hb hm' rfl).symm
    · omega

def isNil : AV → Bool
  | .val (.slice none 0 0) => true
  | _ => false
def appendA (P : Program) (t : TypeId) (x y : AV) (H : Heap) : Ans :=
  match el P t with
  | none => none
  | some (e, st, bytes, z) =>
    match y with
    | .val (.slice none 0 0) => match x with
      | .val (.slice none 0 0) => some (x, H)
      | .sl true o 0 n st' => some (x, H)
      | _ => none
    | .sl own o' off' n' st' => match cellsOf H o' with
      | some cs' => if off' + n' * st ≤ cs'.length ∧ st' = st ∧ (((cs'.drop off').take (n' * st)).all AV.one) = true then
          match x with
          | .val (.slice none 0 0) => if n' = 0 then some (.val (.slice none 0 0), H) else
              if n' * bytes ≤ 140737488355328 ∧ n' ≤ 140737488355328 then some (.sl true H.length 0 n' st, H ++ [.own e ((cs'.drop off').take (n' * st))]) else none
          | .sl true o 0 n st2 => match H[o]? with
            | some (.own e2 cs) => if e2 = e ∧ st2 = st ∧ n * st ≤ cs.length ∧ (n + n') * bytes ≤ 140737488355328 ∧ n + n' ≤ 140737488355328 then
                some (.sl true H.length 0 (n + n') st, H.set o .gone ++ [.own e (cs.take (n * st) ++ (cs'.drop off').take (n' * st))]) else none
            | _ => none
          | _ => none
        else none
      | none => none
    | _ => none

theorem szs_alloc (w : World) (o : Obj) : Szs w (w.alloc o) := fun k a e' fr hk => ⟨a, by
  have hlt : k < w.heap.size := (Array.getElem?_eq_some_iff.1 hk).1
  rw [Below.heap_alloc w _ k hlt]; exact hk, rfl⟩

theorem room_slice {m : Places} {w : World} {own : Bool} {o off len st : Nat} {u : Value} (h : rel m w (.sl own o off len st) u) : ∃ b a cap, m[o]? = some b ∧ u = .slice (some a) len cap ∧ len ≤ cap ∧ cap ≤ 9223372036854775807 ∧ (0 < len → a = ⟨b.1, b.2 + off, none⟩) := by
  obtain ⟨b, a, cap, h1, h2, h3, h4, h5, _⟩ := h
  exact ⟨b, a, cap, h1, h2, h3, h4, fun hl => (h5 (by omega)).1⟩

/-- where a new row is laid by growing -/
theorem grown_row {m : Places} {w : World} {H : Heap} (hH : RepH C m w H) {e need st : Nat} {cap : Nat} {cells : List AV} {vals : List Value} {tail : Array Value} (hr : rels m w cells vals) (hl : vals.length = need * st) (hnc : need ≤ cap) (hc : cap ≤ 9223372036854775807) (ht : tail.size = (cap - need) * st) :
    Fwd C m w (m ++ [(w.heap.size, 0)]) (w.drew.alloc (.cells (vals.toArray ++ tail) e)) (H ++ [.own e cells]) ∧
    rel (m ++ [(w.heap.size, 0)]) (w.drew.alloc (.cells (vals.toArray ++ tail) e)) (.sl true H.length 0 need st) (.slice (some ⟨w.heap.size, 0, none⟩) need cap) := by
  have hf := (hH.drew).new e (arr := vals.toArray ++ tail) (cs := cells) (fun j c hj => by
    obtain ⟨v, h1, h2⟩ := rels_get hr j c hj
    have hlt : j < vals.length := (List.getElem?_eq_some_iff.1 h1).1
    exact ⟨v, by rw [Array.getElem?_append_left (by simpa using hlt)]; simpa using h1, rel_more (List.prefix_refl m) (szs_drew w) h2⟩) (by have := rels_length hr; simp; omega)
  have hrel := own_slice_rel (hH.drew) e need st cap (vals.toArray ++ tail) hnc hc (by
    simp [hl, ht, ← Nat.add_mul]; congr 1; omega)
  exact ⟨⟨hf.pre, fun b a e fr h => hf.szs b a e fr h, hf.rep⟩, hrel⟩

theorem appendA_run {t ty : TypeId} {x y : AV} {H H' : Heap} {c : AV} (h : appendA P t x y H = some (c, H')) {m : Places} {w : World} (hH : RepH C m w H) {u v : Value} (hx : rel m w x u) (hy : rel m w y v) :
    ∃ r m' w', (Builtin.append_ #[t, t] ty #[u, v]).run P w = .ok r w' ∧ Fwd C m w m' w' H' ∧ rel m' w' c r := by
  unfold appendA at h
  split at h
  · cases h
  rename_i e st bytes z hel
  obtain ⟨hu, i, zv, hi, hz, hsz, hst, hby, hzl, h0, hone⟩ := el_spec hel
  have same : ∀ {q : AV} {uq : Value}, rel m w q uq → Fwd C m w m w H ∧ rel m w q uq := fun hq => ⟨⟨List.prefix_refl m, Szs.refl w, hH⟩, hq⟩
  split at h
  · obtain rfl : v = .slice none 0 0 := hy
    split at h
    · obtain rfl : u = .slice none 0 0 := hx
      simp only [Option.some.injEq, Prod.mk.injEq] at h
      obtain ⟨rfl, rfl⟩ := h
      refine ⟨_, m, w, ?_, same rfl⟩
      simp [Builtin.append_, run_underlying hu, sizeOf, typeInfo, hi, Builtin.lenOf, Builtin.firstCells]
    · simp only [Option.some.injEq, Prod.mk.injEq] at h
      obtain ⟨rfl, rfl⟩ := h
      have hx' := hx
      obtain ⟨b, a, cap, hb, rfl, hlc, hc63, hroom, _⟩ := hx'
      refine ⟨_, m, w, ?_, same hx⟩
      simp [Builtin.append_, run_underlying hu, sizeOf, typeInfo, hi, Builtin.lenOf, Builtin.firstCells, hlc, storeCells]
    · cases h
  · rename_i own o' off' n' st'
    split at h
    · rename_i cs' hcs'
      split at h
      · rename_i hc
        obtain ⟨hle, rfl, hall⟩ := hc
        obtain ⟨b', a', cap', hb', rfl, hlc', hc63', ha'⟩ := room_slice hy
        obtain ⟨ys, hyl, hyc, hyr⟩ := hH.cells hcs' hb' (n' * st') off' hle
        have hone' := rels_one hall hyr
        have hnews : ∀ j u, ys[j]? = some u → w.cell? (a'.add j) = some u := by
          intro j u hj
          have hjl : j < ys.length := (List.getElem?_eq_some_iff.1 hj).1
          have hn0 : 0 < n' := by
            rcases Nat.eq_zero_or_pos n' with h | h
            · subst h; simp at hyl; subst hyl; simp at hjl
            · exact h
          rw [ha' hn0, add_at, Nat.add_assoc]
          exact hyc j u hj
        split at h
        · obtain rfl : u = .slice none 0 0 := hx
          split at h
          · rename_i hn0
            subst hn0
            simp only [Option.some.injEq, Prod.mk.injEq] at h
            obtain ⟨rfl, rfl⟩ := h
            refine ⟨_, m, w, ?_, same rfl⟩
            simp [Builtin.append_, run_underlying hu, sizeOf, typeInfo, hi, Builtin.lenOf, Builtin.firstCells, loadCells, loadCellsFrom]
          · rename_i hn0
            split at h
            · rename_i hb
              simp only [Option.some.injEq, Prod.mk.injEq] at h
              obtain ⟨rfl, rfl⟩ := h
              have hrun := run_append_nil (P := P) w t ty e i zv hu hi hz a' n' cap' ys (by rw [hyl, hst]) hnews (by omega) (by omega) (by rw [hby]; omega)
              have hg := grownCap_ge w n' 0 e
              have hg2 := grownCap_le_maxLen w n' 0 e (by simp only [maxLen]; omega)
              obtain ⟨hf, hr⟩ := grown_row hH (e := e) (need := n') (st := st') (cap := grownCap w n' 0 e) (tail := Builtin.zeroCells zv.cells (grownCap w n' 0 e - n')) hyr hyl hg (by simpa only [maxLen] using hg2) (by rw [size_zeroCells, hsz, hst])
              exact ⟨_, _, _, hrun, hf, hr⟩
            · cases h
        · rename_i o n st2
          split at h
          · rename_i e2 cs ho
            split at h
            · rename_i hb
              obtain ⟨rfl, rfl, hnl, hbig, hbig2⟩ := hb
              simp only [Option.some.injEq, Prod.mk.injEq] at h
              obtain ⟨rfl, rfl⟩ := h
              obtain ⟨b, a, cap, hb, rfl, hlc, hc63, hroom, hfull⟩ := hx
              obtain ⟨ha, arrF, eF, frF, hhF, hsF⟩ := (hfull rfl).resolve_left (by omega)
              subst ha
              obtain ⟨hB, arr, hh, hla, hcells⟩ := hH.obj _ _ _ ho hb
              rw [hh] at hhF
              injection hhF with hhF
              injection hhF with q1 q2 q3
              subst q1
              obtain ⟨xs, hxl, hxc, hxr⟩ := hH.cells (show cellsOf H o = some cs by simp [cellsOf, ho]) hb (n * st2) 0 (by omega)
              simp only [List.drop_zero] at hxr
              have hb2 : b.2 = 0 := hB.2
              have hrels := rels_append hxr hyr
              by_cases hfit : n + n' ≤ cap
              · have hrun := run_append_room (P := P) w t ty e2 i hu hi b.1 n cap arr hh a' n' cap' ys (by rw [hyl, hst]) hnews hone' hfit (by rw [hyl, hst, ← Nat.add_mul]; have := Nat.mul_le_mul_right st2 hfit; omega)
                have hb1 : (⟨b.1, b.2 + 0, none⟩ : Addr) = ⟨b.1, 0, none⟩ := by rw [hb2]
                rw [hst, hyl] at hrun
                have htk : arr.toList.take (n * st2) = xs := by
                  refine List.ext_getElem? fun j => ?_
                  by_cases hj : j < n * st2
                  · rw [List.getElem?_take_of_lt hj]
                    have h1 : xs[j]? = some (xs[j]'(by omega)) := List.getElem?_eq_getElem (by omega)
                    have h2 := hxc j _ h1
                    rw [h1]
                    simpa [World.cell?, hh, hb2] using h2
                  · rw [List.getElem?_eq_none (by simp; omega), List.getElem?_eq_none (by omega)]
                have hfitc : (n + n') * st2 ≤ cap * st2 := Nat.mul_le_mul_right st2 hfit
                have hadd : (n + n') * st2 = n * st2 + n' * st2 := Nat.add_mul ..
                rw [htk] at hrun
                generalize harr : (xs ++ ys ++ arr.toList.drop (n * st2 + n' * st2)).toArray = arr' at hrun
                have hsz' : arr'.size = arr.size := by rw [← harr]; simp; omega
                have hnew := setRow_heap w b.1 arr arr' e2 (0, 0) hh
                have hfar : ∀ k, k ≠ b.1 → (w.setRow b.1 arr').heap[k]? = w.heap[k]? := fun k hk => setRow_other w b.1 k arr' hk
                have hs : Szs w (w.setRow b.1 arr') := fun k a e' fr hk => by
                  by_cases he : k = b.1
                  · subst he
                    rw [hh] at hk
                    injection hk with hk
                    injection hk with q1 q2 q3
                    subst q1; subst q2; subst q3
                    exact ⟨arr', hnew, hsz'⟩
                  · exact ⟨a, (hfar k he).trans hk, rfl⟩
                have hturn := hH.turn (cs' := cs.take (n * st2) ++ (cs'.drop off').take (n' * st2)) (w' := w.setRow b.1 arr') ho hb rfl rfl rfl (by simp [World.setRow]) hfar hs (by
                  refine ⟨arr', hnew, by have := rels_length hrels; rw [this, hsz']; simp; omega, fun j c hj => ?_⟩
                  obtain ⟨v, h1, h2⟩ := rels_get hrels j c hj
                  refine ⟨v, ?_, rel_more (List.prefix_refl m) hs h2⟩
                  have hlt : j < (xs ++ ys).length := (List.getElem?_eq_some_iff.1 h1).1
                  rw [hb2, Nat.zero_add, ← harr]
                  simp only [List.getElem?_toArray]
                  rw [List.getElem?_append_left hlt]; exact h1)
                have hlt : o < H.length := (List.getElem?_eq_some_iff.1 ho).1
                have hren := hturn.rename (List.getElem?_set_self hlt) hb
                rw [List.set_set] at hren
                refine ⟨_, m ++ [b], _, by rw [hb1]; exact hrun, ⟨List.prefix_append _ _, hs, hren⟩, ?_⟩
                refine ⟨b, ⟨b.1, 0, none⟩, cap, by rw [← hH.len]; simp, rfl, hfit, hc63, fun _ => ⟨by rw [hb2], arr', e2, (0, 0), hnew, by rw [hsz']; omega⟩, fun _ => .inr ⟨by rw [hb2], arr', e2, (0, 0), hnew, by rw [hsz']; omega⟩⟩
              · have hrun := run_append_grow (P := P) w t ty e2 i zv hu hi hz ⟨b.1, b.2 + 0, none⟩ n cap xs (by rw [hxl, hst]) (fun j u hj => by rw [add_at]; simpa using hxc j u hj) a' n' cap' ys (by rw [hyl, hst]) hnews (by omega) (by omega) (growslice_fits (by omega) (by rw [hby]; exact hbig))
                have hg := grownCap_ge w (n + n') cap e2
                have hg2 := grownCap_le_maxLen w (n + n') cap e2 (by simp only [maxLen]; omega)
                obtain ⟨hf, hr⟩ := grown_row (hH.kill o) (e := e2) (need := n + n') (st := st2) (cap := grownCap w (n + n') cap e2) (tail := Builtin.zeroCells zv.cells (grownCap w (n + n') cap e2 - (n + n'))) hrels (by simp [hxl, hyl, Nat.add_mul]) hg (by simpa only [maxLen] using hg2) (by rw [size_zeroCells, hsz, hst])
                have hcat : (xs ++ ys).toArray = xs.toArray ++ ys.toArray := by simp
                rw [hcat] at hf hr
                exact ⟨_, _, _, hrun, hf, by simpa using hr⟩
            · cases h
          · cases h
        · cases h
      · cases h
    · cases h
  · cases h
end Go.Proofs.YtlfpjdcogkcjlaaGreatDoor.AL
