/- Merged: ALG AL16 AL17 -/
import Derived.Test.YtlfpjdcogkcjlaaGreatDoorM1
/-
  What a call leaves behind that nobody can reach is left out.
-/
namespace Go.Proofs.YtlfpjdcogkcjlaaGreatDoor.AL
open Go.RowKit
set_option linter.unusedVariables false
set_option linter.unusedSimpArgs false
variable {P : Program} {C : Base}

theorem pre_same {m m' : Places} (h : m <+: m') {o : Nat} {b b' : Nat × Nat} (h1 : m[o]? = some b) (h2 : m'[o]? = some b') : b' = b := by
  rw [get_pre h h1] at h2; exact (Option.some.inj h2).symm
mutual
theorem rel_back {m m' : Places} {w w' : World} (hp : m <+: m') : ∀ {c : AV} {u v : Value}, rel m w c u → rel m' w' c v → rel m w' c v
  | .val _, _, _, _, h => h
  | .ptr .., _, _, ⟨b, h1, _⟩, ⟨b', h2, h3⟩ => ⟨b, h1, by rw [← pre_same hp h1 h2]; exact h3⟩
  | .sl .., _, _, ⟨b, _, _, h1, _⟩, ⟨b', a, cap, h2, h3⟩ => ⟨b, a, cap, h1, by rw [← pre_same hp h1 h2]; exact h3⟩
  | .mp _, _, _, ⟨b, h1, _⟩, ⟨b', h2, h3⟩ => ⟨b, h1, by rw [← pre_same hp h1 h2]; exact h3⟩
  | .ifc _ c, _, _, ⟨u, _, h1⟩, ⟨v, h2, h3⟩ => ⟨v, h2, rel_back hp h1 h3⟩
  | .fn _ a c, _, _, ⟨_, _, _, h1, h2⟩, ⟨vs, us, h3, h4, h5⟩ => ⟨vs, us, h3, rels_back hp h1 h4, rels_back hp h2 h5⟩
  | .agg l, _, _, ⟨_, _, h1⟩, ⟨vs, h2, h3⟩ => ⟨vs, h2, rels_back hp h1 h3⟩
  | .tup l, _, _, ⟨_, _, h1⟩, ⟨vs, h2, h3⟩ => ⟨vs, h2, rels_back hp h1 h3⟩
  | .any, _, _, _, _ => trivial
theorem rels_back {m m' : Places} {w w' : World} (hp : m <+: m') : ∀ {l : List AV} {us vs : List Value}, rels m w l us → rels m' w' l vs → rels m w' l vs
  | [], _, [], _, _ => trivial
  | c :: l, u :: us, v :: vs, h1, h2 => ⟨rel_back hp h1.1 h2.1, rels_back hp h1.2 h2.2⟩
  | [], _, _ :: _, _, h => h.elim
  | _ :: _, _, [], _, h => h.elim
  | _ :: _, [], _ :: _, h, _ => h.elim
end
mutual
theorem plain_self (m : Places) (w : World) : ∀ {c : AV} {v : Value}, plain c = some v → rel m w c v
  | .val u, v, h => by simp only [plain, Option.some.injEq] at h; exact h.symm
  | .agg l, v, h => by
    simp only [plain, Option.map_eq_some_iff] at h
    obtain ⟨vs, h1, rfl⟩ := h
    exact ⟨_, rfl, plains_self m w h1⟩
  | .tup l, v, h => by
    simp only [plain, Option.map_eq_some_iff] at h
    obtain ⟨vs, h1, rfl⟩ := h
    exact ⟨_, rfl, plains_self m w h1⟩
  | .ifc t c, v, h => by
    simp only [plain, Option.map_eq_some_iff] at h
    obtain ⟨u, h1, rfl⟩ := h
    exact ⟨_, rfl, plain_self m w h1⟩
  | .ptr .., _, h => by simp [plain] at h
  | .sl .., _, h => by simp [plain] at h
  | .mp .., _, h => by simp [plain] at h
  | .fn .., _, h => by simp [plain] at h
  | .any, _, h => by simp [plain] at h
theorem plains_self (m : Places) (w : World) : ∀ {l : List AV} {vs : List Value}, plains l = some vs → rels m w l vs
  | [], vs, h => by simp only [plains, Option.some.injEq] at h; subst h; trivial
  | c :: l, vs, h => by
    simp only [plains, Option.bind_eq_some_iff, Option.map_eq_some_iff] at h
    obtain ⟨v, h1, vs', h2, rfl⟩ := h
    exact ⟨plain_self m w h1, plains_self m w h2⟩
end

theorem relO_back {m m' : Places} {w w' : World} (hp : m <+: m') {b : Nat × Nat} {x : AObj} (h1 : relO C m w b x) (h2 : relO C m' w' b x) : relO C m w' b x := by
  cases x with
  | gone => trivial
  | ro cs =>
    refine ⟨h2.1, fun j c hj => ?_⟩
    obtain ⟨v, k1, k2⟩ := h2.2 j c hj
    obtain ⟨u, k3, k4⟩ := h1.2 j c hj
    exact ⟨v, k1, rel_back hp k4 k2⟩
  | own e cs =>
    obtain ⟨p1, arr, p2, p3, p4⟩ := h2
    obtain ⟨q1, arr', q2, q3, q4⟩ := h1
    refine ⟨p1, arr, p2, p3, fun j c hj => ?_⟩
    obtain ⟨v, k1, k2⟩ := p4 j c hj
    obtain ⟨u, k3, k4⟩ := q4 j c hj
    exact ⟨v, k1, rel_back hp k4 k2⟩
  | map es =>
    obtain ⟨p1, ens, ck, p2, p3, p4⟩ := h2
    obtain ⟨q1, ens', ck', q2, q3, q4⟩ := h1
    refine ⟨p1, ens, ck, p2, p3, fun j k c hj => ?_⟩
    obtain ⟨v, k1, k2, k3⟩ := p4 j k c hj
    obtain ⟨u, k4, k5, k6⟩ := q4 j k c hj
    exact ⟨v, k1, k2, rel_back hp k6 k3⟩
theorem RepH.back {m m' : Places} {w w' : World} {H G : Heap} (h : RepH C m w H) (h' : RepH C m' w' (H ++ G)) (hp : m <+: m') : RepH C m w' H where
  below := h'.below
  size := h'.size
  len := h.len
  glob := h.glob
  obj := fun o x b hx hb => relO_back hp (h.obj o x b hx hb) (h'.obj o x b (get_more hx) (get_pre hp hb))
  apart := fun o o' x x' b b' n h1 h2 h3 h4 => h'.apart o o' x x' b b' n (get_more h1) (get_more h2) (get_pre hp h3) (get_pre hp h4)
theorem get_more' {H G : Heap} {o : Nat} {x : AObj} (h : H[o]? = some x) : (H ++ G)[o]? = some x := get_more h
/-- A plain answer leads to nothing: what was made is left out. -/
theorem ACalls.plain {f : FuncId} {args : List AV} {H : Heap} {R : AV → Prop} (h : ACalls P C f args H fun r H' => R r ∧ ∃ G, H' = H ++ G) (hx : ∀ r, R r → ∃ u, plain r = some u) : ACalls P C f args H fun r H' => R r ∧ H' = H :=
  ⟨h.1, fun m w vals h1 h2 => (h.2 m w vals h1 h2).mono fun e w' ⟨rv, m', H', r, a, b, c, hr, G, hG⟩ => by
    subst hG
    obtain ⟨u, hu⟩ := hx r hr
    exact ⟨rv, m, H, r, a, ⟨List.prefix_refl m, b.szs, h1.back b.rep b.pre⟩, by rw [plain_rel hu c]; exact plain_self m w' hu, hr, rfl⟩⟩
theorem ACalls.plain1 {f : FuncId} {args : List AV} {H : Heap} {x : AV} {u : Value} (hx : AL.plain x = some u) (h : ACalls P C f args H fun r H' => r = x ∧ ∃ G, H' = H ++ G) : ACalls P C f args H fun r H' => r = x ∧ H' = H :=
  h.plain fun r hr => ⟨u, by rw [hr]; exact hx⟩
end Go.Proofs.YtlfpjdcogkcjlaaGreatDoor.AL
/-
  Regions that draw their order: an order of one's own for each order drawn.
-/
namespace Go.Proofs.YtlfpjdcogkcjlaaGreatDoor.AL
open Go.RowKit
set_option linter.unusedVariables false
set_option linter.unusedSimpArgs false
variable {P : Program} {C : Base}

def opsOf (ops : Array Oper) (L : List Nat) : List Oper := L.filterMap (ops[·]?)

theorem idx_mid {A B : List Nat} {i j k : Nat} (hj : j ≠ i) (hk : k ≠ i) (hjm : j ∈ A ++ B) (h : (A ++ B).idxOf j < (A ++ B).idxOf k) : (A ++ i :: B).idxOf j < (A ++ i :: B).idxOf k := by
  rw [List.idxOf_append, List.idxOf_append] at h ⊢
  have hij : (i == j) = false := by simpa using fun e => hj e.symm
  have hik : (i == k) = false := by simpa using fun e => hk e.symm
  rw [List.idxOf_cons, List.idxOf_cons, hij, hik]
  simp only [cond_false]
  by_cases h1 : j ∈ A
  · rw [if_pos h1] at h ⊢
    have := List.idxOf_lt_length_of_mem h1
    split
    · rename_i h2; rw [if_pos h2] at h; exact h
    · omega
  · rw [if_neg h1] at h ⊢
    split
    · rename_i h2
      rw [if_pos h2] at h
      have := List.idxOf_lt_length_of_mem h2
      omega
    · rename_i h2
      rw [if_neg h2] at h
      omega

/-- The operations in an order of one's own answer for those in the order drawn. -/
theorem order_sound {q : List Nat} {ops : Array Oper} (hops : ops.toList.all (okOp C.nG) = true) {K : Env → Heap → Prop} {Q : Exit → Act → World → Prop} {m0 : Places} {w0 : World} (T : List Nat) (hQ : ∀ m' w' a' env' H', Fwd C m0 w0 m' w' H' → RepE m' w' env' a' → K env' H' → wpOps P ops Q T a' w') :
    ∀ (σ L : List Nat) (m : Places) (w : World) (a : Act) (env : Env) (H : Heap), σ.Nodup → L.Perm σ → (∀ i ∈ σ, i < ops.size) →
      (∀ i j oi oj, i ∈ σ → j ∈ σ → ops[i]? = some oi → ops[j]? = some oj → meets q ops oi oj = true → L.idxOf j < L.idxOf i → σ.idxOf j < σ.idxOf i) →
      Fwd C m0 w0 m w H → RepE m w env a → aops P C (some q) ops (opsOf ops L) env H K → wpOps P ops Q (σ ++ T) a w
  | [], L, m, w, a, env, H, _, hp, _, _, hH, hE, h => by
    have hL : L = [] := List.Perm.eq_nil hp
    subst hL
    exact hQ m w a env H hH hE h
  | i :: σ, L, m, w, a, env, H, hn, hp, hb, ho, hH, hE, h => by
    have hiL : i ∈ L := hp.mem_iff.2 (List.mem_cons_self ..)
    obtain ⟨A, B, rfl⟩ := List.append_of_mem hiL
    have hnL : (A ++ i :: B).Nodup := hp.nodup_iff.2 hn
    have hpm : (A ++ B).Perm σ := by
      have : (i :: (A ++ B)).Perm (i :: σ) := (List.perm_middle.symm).trans hp
      exact List.Perm.cons_inv this
    have hiσ : i ∉ σ := (List.nodup_cons.1 hn).1
    have hnσ : σ.Nodup := (List.nodup_cons.1 hn).2
    have hiA : i ∉ A ++ B := fun hm => hiσ (hpm.mem_iff.1 hm)
    have hlt := hb i (List.mem_cons_self ..)
    have hoi : ops[i]? = some ops[i] := Array.getElem?_eq_getElem hlt
    generalize ops[i] = oi at hoi
    have hoks : ∀ o : Oper, (∃ j : Nat, ops[j]? = some o) → okOp C.nG o = true := fun o ⟨j, hj⟩ => List.all_eq_true.1 hops o (by rw [Array.mem_toList_iff]; exact Array.mem_of_getElem? hj)
    have hsplit : opsOf ops (A ++ i :: B) = opsOf ops A ++ oi :: opsOf ops B := by
      unfold opsOf
      rw [List.filterMap_append, List.filterMap_cons, hoi]
    rw [hsplit] at h
    have hmem : ∀ oj ∈ opsOf ops A, ∃ j, j ∈ A ∧ ops[j]? = some oj := fun oj hoj => by
      obtain ⟨j, h1, h2⟩ := List.mem_filterMap.1 hoj
      exact ⟨j, h1, h2⟩
    have hi0 : (i :: σ).idxOf i = 0 := by rw [List.idxOf_cons]; simp
    have h1 := aops_ahead (fun oj hoj => by
      obtain ⟨j, j1, j2⟩ := hmem oj hoj
      cases hm : meets q ops oi oj with
      | false => rfl
      | true =>
        exfalso
        have hjσ : j ∈ i :: σ := hp.mem_iff.1 (List.mem_append_left _ j1)
        have hlt2 : (A ++ i :: B).idxOf j < (A ++ i :: B).idxOf i := by
          rw [List.idxOf_append, List.idxOf_append, if_pos j1, if_neg (fun hm => hiA (List.mem_append_left _ hm))]
          have := List.idxOf_lt_length_of_mem j1
          omega
        have := ho i j oi oj (List.mem_cons_self ..) hjσ hoi j2 hm hlt2
        omega) (Poss.ptr ⟨m, w, a, hH.rep, hE⟩ (hoks oi ⟨i, hoi⟩)) h
    rw [List.cons_append, wpOps_cons]
    refine op_machineN h1 (hoks oi ⟨i, hoi⟩) hH.rep hE hoi fun m' w' a' r H' e1 e2 h2 => order_sound hops T hQ σ (A ++ B) m' w' a' _ H' hnσ hpm (fun j hj => hb j (List.mem_cons_of_mem _ hj)) ?_ (hH.trans e1) e2 (by
      have : opsOf ops (A ++ B) = opsOf ops A ++ opsOf ops B := by unfold opsOf; rw [List.filterMap_append]
      rw [this]; exact h2)
    intro k j ok oj hk hj hok hoj hm hlt3
    have hki : k ≠ i := fun e => hiσ (e ▸ hk)
    have hji : j ≠ i := fun e => hiσ (e ▸ hj)
    have h4 := ho k j ok oj (List.mem_cons_of_mem _ hk) (List.mem_cons_of_mem _ hj) hok hoj hm (idx_mid hji hki (hpm.mem_iff.2 hj) hlt3)
    rw [List.idxOf_cons, List.idxOf_cons] at h4
    have e1 : (i == j) = false := by simpa using fun e => hji e.symm
    have e2 : (i == k) = false := by simpa using fun e => hki e.symm
    rw [e1, e2] at h4
    simp only [cond_false] at h4
    omega

/-- An order that may be drawn: each operation once, behind those that it waits for. -/
structure Topo (ops : Array Oper) (σ : List Nat) : Prop where
  nodup : σ.Nodup
  mem : ∀ i, i ∈ σ ↔ i < ops.size
  edge : ∀ i o, ops[i]? = some o → ∀ e ∈ o.after, Region.binds .any e = true → σ.idxOf e.on < σ.idxOf i
def backB (ops : Array Oper) : Bool := (List.range ops.size).all fun i => match ops[i]? with
  | none => true
  | some o => o.after.toList.all fun e => !Region.binds .any e || decide (e.on < i)
theorem backB_spec {ops : Array Oper} (h : backB ops = true) {i : Nat} {o : Oper} (hi : ops[i]? = some o) : ∀ e ∈ o.after, Region.binds .any e = true → e.on < i := by
  intro e he hb
  have hlt : i < ops.size := (Array.getElem?_eq_some_iff.1 hi).1
  unfold backB at h
  have h1 := List.all_eq_true.1 h i (List.mem_range.2 hlt)
  simp only [hi, List.all_eq_true, Bool.or_eq_true, Bool.not_eq_true', decide_eq_true_eq] at h1
  rcases h1 e (by simpa using he) with h2 | h2
  · rw [hb] at h2; cases h2
  · exact h2
theorem ready_none {ops : Array Oper} {listed : Array Bool} (hok : backB ops = true) (hs : listed.size = ops.size) (hr : Region.ready .any ops listed = []) : ∀ i, i < ops.size → listed.getD i true = true := by
  intro i
  induction i using Nat.strongRecOn with
  | _ i ih =>
    intro hi
    cases hl : listed.getD i true with
    | true => rfl
    | false =>
      exfalso
      have hmem : i ∈ Region.ready .any ops listed := by
        rw [mem_ready]
        have ho : ops[i]? = some ops[i] := Array.getElem?_eq_getElem hi
        refine ⟨hl, _, ho, fun e he hb => ?_⟩
        have hlt := backB_spec hok ho e he hb
        have h1 := ih e.on hlt (by omega)
        have hb2 : e.on < listed.size := by omega
        simpa [Array.getD, hb2] using h1
      rw [hr] at hmem
      cases hmem
theorem lin_spec {ops : Array Oper} (hok : backB ops = true) : ∀ (fuel t : Nat) (listed : Array Bool), listed.size = ops.size → (remIdx ops.size listed).length ≤ fuel →
    (Region.linearise.go .any ops fuel t listed []).Nodup ∧ (∀ i, i ∈ Region.linearise.go .any ops fuel t listed [] ↔ i < ops.size ∧ listed.getD i true = false) ∧
      ∀ i o, i ∈ Region.linearise.go .any ops fuel t listed [] → ops[i]? = some o → ∀ e ∈ o.after, Region.binds .any e = true → listed.getD e.on false = true ∨ (Region.linearise.go .any ops fuel t listed []).idxOf e.on < (Region.linearise.go .any ops fuel t listed []).idxOf i
  | 0, t, listed, hs, hf => by
    have h0 : remIdx ops.size listed = [] := List.eq_nil_of_length_eq_zero (by omega)
    have e0 : Region.linearise.go .any ops 0 t listed [] = [] := by simp [Region.linearise.go]
    rw [e0]
    refine ⟨List.nodup_nil, fun i => ⟨fun h => (by cases h), fun h => ?_⟩, fun i o hi => (by cases hi)⟩
    exfalso
    have : i ∈ remIdx ops.size listed := List.mem_filter.2 ⟨List.mem_range.2 h.1, by rw [h.2]; rfl⟩
    rw [h0] at this
    cases this
  | fuel + 1, t, listed, hs, hf => by
    have key : Region.linearise.go .any ops (fuel + 1) t listed [] = match (Region.ready .any ops listed)[t % (Region.ready .any ops listed).length]? with
        | some i => Region.linearise.go .any ops fuel (t / (Region.ready .any ops listed).length) (listed.setIfInBounds i true) [i]
        | none => [] := rfl
    cases hi : (Region.ready .any ops listed)[t % (Region.ready .any ops listed).length]? with
    | none =>
      have hnil : Region.ready .any ops listed = [] := by
        cases hr : Region.ready .any ops listed with
        | nil => rfl
        | cons x xs =>
          rw [hr] at hi
          have hlt : t % (x :: xs).length < (x :: xs).length := Nat.mod_lt _ (by simp)
          simp at hi
          simp at hlt
          omega
      rw [key, hi]
      simp only
      refine ⟨List.nodup_nil, fun i => ⟨fun h => (by cases h), fun h => ?_⟩, fun i o hi => (by cases hi)⟩
      have := ready_none hok hs hnil i h.1
      rw [this] at h
      cases h.2
    | some i =>
      obtain ⟨k1, oi, k2, k3⟩ := mem_ready.1 (List.mem_of_getElem? hi)
      have hlt : i < ops.size := (Array.getElem?_eq_some_iff.1 k2).1
      have hs' : (listed.setIfInBounds i true).size = ops.size := by simp [hs]
      have hf' : (remIdx ops.size (listed.setIfInBounds i true)).length ≤ fuel := by
        obtain ⟨A', B', p1, p2, _⟩ := remIdx_split hlt k1 hs
        rw [p2]; rw [p1] at hf
        simp only [List.length_append, List.length_cons] at hf ⊢
        omega
      obtain ⟨h1, h2, h3⟩ := lin_spec hok fuel (t / (Region.ready .any ops listed).length) (listed.setIfInBounds i true) hs' hf'
      rw [key, hi]
      simp only
      rw [linearise_go_acc, List.reverse_singleton, List.singleton_append]
      generalize Region.linearise.go .any ops fuel (t / (Region.ready .any ops listed).length) (listed.setIfInBounds i true) [] = σ at *
      have hset : ∀ j, (listed.setIfInBounds i true).getD j true = false ↔ j ≠ i ∧ listed.getD j true = false := by
        intro j
        by_cases hj : i = j
        · subst hj
          have : (listed.setIfInBounds i true).getD i true = true := by simp [hs, hlt]
          rw [this]
          simp
        · rw [getD_set_ne true hj]
          exact ⟨fun h => ⟨fun e => hj e.symm, h⟩, fun h => h.2⟩
      have hni : i ∉ σ := fun hm => ((hset i).1 ((h2 i).1 hm).2).1 rfl
      refine ⟨List.nodup_cons.2 ⟨hni, h1⟩, fun j => ?_, fun j o hj hoj e he hb => ?_⟩
      · rw [List.mem_cons, h2, hset]
        constructor
        · rintro (rfl | ⟨a, b, c⟩)
          · exact ⟨hlt, k1⟩
          · exact ⟨a, c⟩
        · rintro ⟨a, b⟩
          by_cases hj : j = i
          · exact .inl hj
          · exact .inr ⟨a, hj, b⟩
      · rcases List.mem_cons.1 hj with rfl | hj
        · rw [k2] at hoj
          cases hoj
          exact .inl (k3 e he hb)
        · have hji : j ≠ i := fun e => hni (e ▸ hj)
          have eij : (i == j) = false := by simpa using fun e => hji e.symm
          by_cases hei : e.on = i
          · right
            rw [List.idxOf_cons, List.idxOf_cons, hei, eij]
            simp
          · have eie : (i == e.on) = false := by simpa using fun e => hei e.symm
            rcases h3 j o hj hoj e he hb with h4 | h4
            · left
              rwa [getD_set_ne false (fun e => hei e.symm)] at h4
            · right
              rw [List.idxOf_cons, List.idxOf_cons, eij, eie]
              simp only [cond_false]
              omega
theorem topo_lin {ops : Array Oper} (hok : backB ops = true) (t : Nat) : Topo ops (Region.linearise .any ops t) := by
  have hr : ∀ i, i < ops.size → (Array.replicate ops.size false).getD i true = false := fun i hi => by simp [Array.getD, hi]
  have hr2 : ∀ i, (Array.replicate ops.size false).getD i false = false := fun i => by
    rcases Nat.lt_or_ge i ops.size with hlt | hlt <;> simp [Array.getD, hlt]
  obtain ⟨h1, h2, h3⟩ := lin_spec hok ops.size t (Array.replicate ops.size false) (by simp) (by rw [remIdx_start]; simp)
  have e : Region.linearise .any ops t = Region.linearise.go .any ops ops.size t (Array.replicate ops.size false) [] := rfl
  rw [e]
  refine ⟨h1, fun i => ⟨fun h => ((h2 i).1 h).1, fun h => (h2 i).2 ⟨h, hr i h⟩⟩, fun i o hi ed he hb => ?_⟩
  rcases h3 i o ((h2 i).2 ⟨(Array.getElem?_eq_some_iff.1 hi).1, hr i (Array.getElem?_eq_some_iff.1 hi).1⟩) hi ed he hb with h4 | h4
  · rw [hr2] at h4; cases h4
  · exact h4

/-- An order of one's own that answers for the order drawn. -/
structure Compat (q : List Nat) (ops : Array Oper) (L σ : List Nat) : Prop where
  perm : L.Perm σ
  ord : ∀ i j oi oj, i ∈ σ → j ∈ σ → ops[i]? = some oi → ops[j]? = some oj → meets q ops oi oj = true → L.idxOf j < L.idxOf i → σ.idxOf j < σ.idxOf i
/-- THE RULE: each order that may be drawn is answered for by one of one's own. -/
theorem A_order {id : Nat} {q : List Nat} {ops : Array Oper} {env : Env} {H : Heap} {Q : Exit → Env → Heap → Prop} (hm : P.follows .mixedOrders = true) (hok : backB ops = true) (hops : ops.toList.all (okOp C.nG) = true)
    (h : ∀ σ, Topo ops σ → ∃ L, Compat q ops L σ ∧ aops P C (some q) ops (opsOf ops L) env H fun e h => Q .normal e h) : AWp P C (.region id ops true) env H Q := by
  intro m w a hH hE
  refine wp_region_draw fun t => ?_
  have es : Region.schedule (P.follows .mixedOrders) ops t = Region.linearise .any ops t := by simp only [Region.schedule, hm, Bool.true_or, if_true]
  rw [es]
  have ht := topo_lin hok t
  generalize Region.linearise .any ops t = σ at ht
  obtain ⟨L, hc, ha⟩ := h σ ht
  have hH1 : RepH C m { w with drawn := w.drawn + 1 } H := hH.drewN 1
  have key := order_sound hops (m0 := m) (w0 := { w with drawn := w.drawn + 1 }) (Q := Lift C Q m w) [] (fun m' w' a' env' H' k1 k2 k3 => ⟨m', env', H', ⟨k1.pre, (szs_drewN w 1).trans k1.szs, k1.rep⟩, k2, k3⟩) σ L m _ a env H ht.nodup hc.perm (fun i hi => (ht.mem i).1 hi) hc.ord ⟨List.prefix_refl m, Szs.refl _, hH1⟩ (hE.more (List.prefix_refl m) (szs_drewN w 1)) ha
  rwa [List.append_nil] at key

theorem reach_topo {ops : Array Oper} {σ : List Nat} (ht : Topo ops σ) : ∀ (k i j : Nat), reach ops k i j = true → σ.idxOf j < σ.idxOf i
  | 0, i, j, h => by simp [reach] at h
  | k + 1, i, j, h => by
    unfold reach at h
    cases ho : ops[i]? with
    | none => rw [ho] at h; cases h
    | some o =>
      rw [ho] at h
      simp only [Bool.or_eq_true, List.any_eq_true, Bool.and_eq_true, decide_eq_true_eq, beq_iff_eq] at h
      rcases h with ⟨e, he, h1, h2⟩ | ⟨e, he, ⟨h1, h2⟩, h3⟩
      · rw [← h2]; exact ht.edge i o ho e (by simpa using he) h1
      · have h4 := reach_topo ht k e.on j h3
        have h5 := ht.edge i o ho e (by simpa using he) h1
        omega
/-- Each two operations that meet are ordered in an order of one's own as they always are, or as said. -/
def okOrd (q : List Nat) (ops : Array Oper) (L : List Nat) (E : List (Nat × Nat)) : Bool :=
  L.isPerm (List.range ops.size) && (List.range ops.size).all fun i => (List.range ops.size).all fun j => match ops[i]?, ops[j]? with
    | some oi, some oj => !(decide (L.idxOf j < L.idxOf i)) || !meets q ops oi oj || reach ops ops.size i j || E.contains (j, i)
    | _, _ => true
theorem compat_of {q : List Nat} {ops : Array Oper} {L σ : List Nat} {E : List (Nat × Nat)} (h : okOrd q ops L E = true) (ht : Topo ops σ) (hE : ∀ p ∈ E, σ.idxOf p.1 < σ.idxOf p.2) : Compat q ops L σ := by
  unfold okOrd at h
  rw [Bool.and_eq_true] at h
  obtain ⟨h1, h2⟩ := h
  have hp : L.Perm (List.range ops.size) := List.isPerm_iff.1 h1
  refine ⟨hp.trans ((List.perm_ext_iff_of_nodup List.nodup_range ht.nodup).2 fun a => by rw [List.mem_range, ht.mem]), fun i j oi oj hi hj hoi hoj hm hlt => ?_⟩
  have h3 := List.all_eq_true.1 (List.all_eq_true.1 h2 i (List.mem_range.2 ((ht.mem i).1 hi))) j (List.mem_range.2 ((ht.mem j).1 hj))
  simp only [hoi, hoj, Bool.or_eq_true, Bool.not_eq_true', decide_eq_false_iff_not, List.contains_iff_mem] at h3
  rcases h3 with ((h3 | h3) | h3) | h3
  · exact absurd hlt h3
  · rw [hm] at h3; cases h3
  · exact reach_topo ht _ _ _ h3
  · exact hE (j, i) h3

/-- Operations at the end that are all ordered run as they stand, and their calls may answer as they like. -/
theorem wpOps_list {ops : Array Oper} {Q : Exit → Act → World → Prop} : ∀ (L : List Nat) (a : Act) (w : World), wpList P ops Q (opsOf ops L) a w → wpOps P ops Q L a w
  | [], a, w, h => h
  | i :: L, a, w, h => by
    unfold wpOps
    cases ho : ops[i]? with
    | none =>
      simp only
      refine wpOps_list L a w ?_
      unfold opsOf at h ⊢
      rwa [List.filterMap_cons, ho] at h
    | some o =>
      simp only
      have e : opsOf ops (i :: L) = o :: opsOf ops L := by unfold opsOf; rw [List.filterMap_cons, ho]
      rw [e] at h
      unfold wpList at h
      split
      · rename_i hw
        rw [if_pos hw] at h
        exact h.imp (Oper.wp_mono fun a w => wpOps_list L a w) _root_.id
      · rename_i hw
        rw [if_neg hw] at h
        exact wpOps_list L _ _ h
theorem tail_split : ∀ (n : Nat) (L2 L1 σ : List Nat), L2.length = n → σ.Nodup → σ.Perm (L1 ++ L2) → (∀ A i B, L2 = A ++ i :: B → ∀ j, j ∈ L1 ++ A → σ.idxOf j < σ.idxOf i) → ∃ σ1, σ = σ1 ++ L2 ∧ σ1.Perm L1
  | 0, L2, L1, σ, hn, hd, hp, _ => by
    have : L2 = [] := List.eq_nil_of_length_eq_zero hn
    subst this
    exact ⟨σ, (List.append_nil _).symm, by rwa [List.append_nil] at hp⟩
  | n + 1, L2, L1, σ, hn, hd, hp, h => by
    obtain ⟨A, z, rfl⟩ : ∃ A z, L2 = A ++ [z] := ⟨L2.dropLast, L2.getLast (by intro e; simp [e] at hn), (List.dropLast_concat_getLast _).symm⟩
    have hσ : σ ≠ [] := by
      rintro rfl
      have := hp.length_eq
      simp at this
    obtain ⟨σ', y, rfl⟩ : ∃ σ' y, σ = σ' ++ [y] := ⟨σ.dropLast, σ.getLast hσ, (List.dropLast_concat_getLast _).symm⟩
    have hyn : y ∉ σ' := fun hm => by
      rw [List.nodup_append] at hd
      exact hd.2.2 y hm y (by simp) rfl
    have hyz : y = z := by
      by_cases hyz : y = z
      · exact hyz
      · exfalso
        have hy : y ∈ L1 ++ (A ++ [z]) := hp.mem_iff.1 (by simp)
        have hy2 : y ∈ L1 ++ A := by
          rw [← List.append_assoc] at hy
          rcases List.mem_append.1 hy with hy | hy
          · exact hy
          · rw [List.mem_singleton] at hy; exact absurd hy hyz
        have hz : z ∈ σ' ++ [y] := hp.mem_iff.2 (by simp)
        have hz2 : z ∈ σ' := by
          rcases List.mem_append.1 hz with hz | hz
          · exact hz
          · rw [List.mem_singleton] at hz; exact absurd hz.symm hyz
        have h1 := h A z [] rfl y hy2
        rw [List.idxOf_append, List.idxOf_append, if_neg hyn, if_pos hz2] at h1
        have := List.idxOf_lt_length_of_mem hz2
        omega
    subst hyz
    have hp' : σ'.Perm (L1 ++ A) := by
      rw [← List.append_assoc] at hp
      exact (List.perm_append_right_iff [y]).1 hp
    have hd' : σ'.Nodup := (List.nodup_append.1 hd).1
    have hyA : y ∉ L1 ++ A := fun hm => hyn (hp'.mem_iff.2 hm)
    obtain ⟨σ1, e1, e2⟩ := tail_split n A L1 σ' (by simpa using hn) hd' hp' (fun A' i B' e j hj => by
      have h1 := h A' i (B' ++ [y]) (by rw [e]; simp) j hj
      have hi : i ∈ σ' := hp'.mem_iff.2 (by rw [e]; simp)
      have hj' : j ∈ σ' := hp'.mem_iff.2 (by
        rw [e]
        rcases List.mem_append.1 hj with hj | hj
        · exact List.mem_append_left _ hj
        · exact List.mem_append_right _ (List.mem_append_left _ hj))
      rwa [List.idxOf_append, List.idxOf_append, if_pos hi, if_pos hj'] at h1)
    exact ⟨σ1, by rw [e1, List.append_assoc], e2⟩
theorem range_cut {n k : Nat} (h : n ≤ k) : List.range k = List.range n ++ List.range' n (k - n) := by
  rw [List.range_eq_range', List.range_eq_range']
  have h1 : List.range' 0 k = List.range' 0 n ++ List.range' (0 + 1 * n) (k - n) := by rw [List.range'_append]; congr 1; omega
  rw [h1]
  congr 1
  simp
/-- From place n on, each operation waits for all ahead of it; the ones ahead are ordered where they meet. -/
def okTail (q : List Nat) (ops : Array Oper) (n : Nat) : Bool :=
  decide (n ≤ ops.size) && ((List.range' n (ops.size - n)).all fun i => (List.range i).all fun j => reach ops ops.size i j) &&
    (List.range n).all fun i => (List.range i).all fun j => match ops[i]?, ops[j]? with
      | some oi, some oj => !meets q ops oi oj || reach ops ops.size i j
      | _, _ => true
theorem idx_range {n i j : Nat} (hi : i < n) (hj : j < n) (h : (List.range n).idxOf j < (List.range n).idxOf i) : j < i := by
  have e : ∀ k, k < n → (List.range n).idxOf k = k := fun k hk => by
    have := List.Nodup.idxOf_getElem (List.nodup_range (n := n)) k (by simpa using hk)
    simpa using this
  rw [e i hi, e j hj] at h
  exact h
theorem A_tail {id : Nat} {q : List Nat} {ops : Array Oper} {n : Nat} {env : Env} {H : Heap} {Q : Exit → Env → Heap → Prop} (hm : P.follows .mixedOrders = true) (hok : backB ops = true) (hops : ops.toList.all (okOp C.nG) = true) (ht : okTail q ops n = true)
    (h : aops P C (some q) ops (opsOf ops (List.range n)) env H fun e h => aops P C none ops (opsOf ops (List.range' n (ops.size - n))) e h fun e h => Q .normal e h) : AWp P C (.region id ops true) env H Q := by
  intro m w a hH hE
  refine wp_region_draw fun t => ?_
  have es : Region.schedule (P.follows .mixedOrders) ops t = Region.linearise .any ops t := by simp only [Region.schedule, hm, Bool.true_or, if_true]
  rw [es]
  have hT := topo_lin hok t
  generalize Region.linearise .any ops t = σ at hT
  unfold okTail at ht
  simp only [Bool.and_eq_true, decide_eq_true_eq] at ht
  obtain ⟨⟨t1, t2⟩, t3⟩ := ht
  have er : List.range ops.size = List.range n ++ List.range' n (ops.size - n) := range_cut t1
  have hp : σ.Perm (List.range n ++ List.range' n (ops.size - n)) := by
    rw [← er]
    exact (List.perm_ext_iff_of_nodup hT.nodup List.nodup_range).2 fun a => by rw [List.mem_range, hT.mem]
  obtain ⟨σ1, rfl, hp1⟩ := tail_split _ (List.range' n (ops.size - n)) (List.range n) σ rfl hT.nodup hp (fun A i B e j hj => by
    have hi : i ∈ List.range' n (ops.size - n) := by rw [e]; simp
    have hji : j < i := by
      have h2 : (List.range n ++ List.range' n (ops.size - n)) = (List.range n ++ A) ++ i :: B := by rw [e, List.append_assoc]
      rw [← er] at h2
      obtain ⟨k, hk⟩ := List.getElem?_of_mem hj
      have hkl := (List.getElem?_eq_some_iff.1 hk).1
      have e1 : (List.range ops.size)[k]? = some j := by rw [h2, List.getElem?_append_left hkl]; exact hk
      have e2 : (List.range ops.size)[(List.range n ++ A).length]? = some i := by rw [h2, List.getElem?_append_right (Nat.le_refl _)]; simp
      have q1 := (List.getElem?_eq_some_iff.1 e1).2
      have q2 := (List.getElem?_eq_some_iff.1 e2).2
      simp only [List.getElem_range] at q1 q2
      omega
    exact reach_topo hT _ _ _ (List.all_eq_true.1 (List.all_eq_true.1 t2 i hi) j (List.mem_range.2 hji)))
  have hH1 : RepH C m { w with drawn := w.drawn + 1 } H := hH.drewN 1
  have hd1 : σ1.Nodup := (List.nodup_append.1 hT.nodup).1
  refine order_sound hops (m0 := m) (w0 := { w with drawn := w.drawn + 1 }) (Q := Lift C Q m w) (List.range' n (ops.size - n)) (fun m' w' a' env' H' k1 k2 k3 => ?_) σ1 (List.range n) m _ a env H hd1 hp1.symm (fun i hi => (hT.mem i).1 (List.mem_append_left _ hi)) ?_ ⟨List.prefix_refl m, Szs.refl _, hH1⟩ (hE.more (List.prefix_refl m) (szs_drewN w 1)) h
  · refine wpOps_list _ _ _ (aops_sound k3 ?_ k1.rep k2 fun m2 w2 a2 e2 H2 q1 q2 q3 => ⟨m2, e2, H2, ⟨k1.pre.trans q1.pre, (szs_drewN w 1).trans (k1.szs.trans q1.szs), q1.rep⟩, q2, q3⟩)
    rw [List.all_eq_true]
    intro o ho
    obtain ⟨j, _, hj⟩ := List.mem_filterMap.1 ho
    exact List.all_eq_true.1 hops o (by rw [Array.mem_toList_iff]; exact Array.mem_of_getElem? hj)
  · intro i j oi oj hi hj hoi hoj hmt hlt
    have hi1 : i < n := List.mem_range.1 (hp1.mem_iff.1 hi)
    have hj1 : j < n := List.mem_range.1 (hp1.mem_iff.1 hj)
    have hji := idx_range hi1 hj1 hlt
    have h3 := List.all_eq_true.1 (List.all_eq_true.1 t3 i (List.mem_range.2 hi1)) j (List.mem_range.2 hji)
    simp only [hoi, hoj, Bool.or_eq_true, Bool.not_eq_true'] at h3
    rcases h3 with h3 | h3
    · rw [hmt] at h3; cases h3
    · have := reach_topo hT _ _ _ h3
      rwa [List.idxOf_append, List.idxOf_append, if_pos hi, if_pos hj] at this
/-- What follows in a drawn region, as it stands. -/
def Ktail (l : List Oper) (P : Program) (C : Base) (ops : Array Oper) (Q : Exit → Env → Heap → Prop) : Env → Heap → Prop := fun e h => aops P C none ops l e h (Knorm Q)
theorem Ktail_eq {l : List Oper} {ops : Array Oper} {Q : Exit → Env → Heap → Prop} {e : Env} {h : Heap} : Ktail l P C ops Q e h = aops P C none ops l e h (Knorm Q) := _root_.id rfl
theorem opsOf_range {l : List Oper} {n : Nat} : opsOf (List.toArray l) (List.range n) = l.take n := by
  unfold opsOf
  have := filterMap_range l n
  simpa using this
theorem opsOf_range' {l : List Oper} {n : Nat} : opsOf (List.toArray l) (List.range' n ((List.toArray l).size - n)) = l.drop n := by
  have h1 : l = opsOf (List.toArray l) (List.range (List.toArray l).size) := by rw [opsOf_range]; simp
  by_cases hn : n ≤ l.length
  · have er : List.range (List.toArray l).size = List.range n ++ List.range' n ((List.toArray l).size - n) := range_cut (by simpa using hn)
    have h2 : l = opsOf (List.toArray l) (List.range n) ++ opsOf (List.toArray l) (List.range' n ((List.toArray l).size - n)) := by
      have : opsOf (List.toArray l) (List.range (List.toArray l).size) = opsOf (List.toArray l) (List.range n) ++ opsOf (List.toArray l) (List.range' n ((List.toArray l).size - n)) := by
        rw [er]; unfold opsOf; rw [List.filterMap_append]
      rw [← this, ← h1]
    rw [opsOf_range] at h2
    have h3 := List.take_append_drop n l
    exact (List.append_cancel_left (h3.trans h2)).symm
  · rw [List.drop_eq_nil_of_le (by omega)]
    have : (List.toArray l).size - n = 0 := by simp; omega
    rw [this]
    rfl
theorem acode_tail {id : Nat} {l : List Oper} {env : Env} {H : Heap} {Q : Exit → Env → Heap → Prop} (q : List Nat) (n : Nat) (hm : P.follows .mixedOrders = true) (hok : backB (List.toArray l) = true) (hops : l.all (okOp C.nG) = true) (ht : okTail q (List.toArray l) n = true)
    (h : aops P C (some q) (List.toArray l) (l.take n) env H (Ktail (l.drop n) P C (List.toArray l) Q)) : acode P C (.region id (List.toArray l) true) env H Q := by
  rw [acode, if_pos rfl]
  refine .inr (A_tail hm hok (by simpa using hops) ht ?_)
  rw [opsOf_range, opsOf_range']
  exact h
theorem idx_tri {σ : List Nat} {i j : Nat} (hi : i ∈ σ) (hj : j ∈ σ) (h : i ≠ j) : σ.idxOf i < σ.idxOf j ∨ σ.idxOf j < σ.idxOf i := by
  rcases Nat.lt_trichotomy (σ.idxOf i) (σ.idxOf j) with h1 | h1 | h1
  · exact .inl h1
  · exfalso
    have e1 := List.getElem_idxOf (List.idxOf_lt_length_of_mem hi)
    have e2 := List.getElem_idxOf (List.idxOf_lt_length_of_mem hj)
    refine h ?_
    rw [← e1, ← e2]
    congr 1
  · exact .inr h1
def consO (x : Option Oper) (r : List Oper) : List Oper := match x with
  | some o => o :: r
  | none => r
theorem consO_some {o : Oper} {r : List Oper} : consO (some o) r = o :: r := _root_.id rfl
theorem opsOf_nil {ops : Array Oper} : opsOf ops [] = [] := _root_.id rfl
theorem opsOf_cons {l : List Oper} {i : Nat} {L : List Nat} : opsOf (List.toArray l) (i :: L) = consO l[i]? (opsOf (List.toArray l) L) := by
  unfold opsOf consO
  rw [List.filterMap_cons]
  simp only [List.getElem?_toArray]
  cases l[i]? <;> rfl
/-- A region with two operations in either order. -/
theorem acode_order2 {id : Nat} {l : List Oper} {env : Env} {H : Heap} {Q : Exit → Env → Heap → Prop} (q : List Nat) (i j : Nat) (L1 L2 : List Nat) (hm : P.follows .mixedOrders = true) (hok : backB (List.toArray l) = true) (hops : l.all (okOp C.nG) = true) (hij : (decide (i ≠ j) && decide (i < l.length) && decide (j < l.length)) = true)
    (h1 : okOrd q (List.toArray l) L1 [(i, j)] = true) (h2 : okOrd q (List.toArray l) L2 [(j, i)] = true)
    (k1 : aops P C (some q) (List.toArray l) (opsOf (List.toArray l) L1) env H (Knorm Q)) (k2 : aops P C (some q) (List.toArray l) (opsOf (List.toArray l) L2) env H (Knorm Q)) : acode P C (.region id (List.toArray l) true) env H Q := by
  rw [acode, if_pos rfl]
  refine .inr (A_order (q := q) hm hok (by simpa using hops) fun σ hT => ?_)
  simp only [Bool.and_eq_true, decide_eq_true_eq] at hij
  rcases idx_tri ((hT.mem i).2 (by simpa using hij.1.2)) ((hT.mem j).2 (by simpa using hij.2)) hij.1.1 with h | h
  · exact ⟨L1, compat_of h1 hT (by intro p hp; rw [List.mem_singleton] at hp; rw [hp]; exact h), k1⟩
  · exact ⟨L2, compat_of h2 hT (by intro p hp; rw [List.mem_singleton] at hp; rw [hp]; exact h), k2⟩
end Go.Proofs.YtlfpjdcogkcjlaaGreatDoor.AL
/-
  Regions that draw their order: one operation at any place among a chain of others.
-/
namespace Go.Proofs.YtlfpjdcogkcjlaaGreatDoor.AL
open Go.RowKit
set_option linter.unusedVariables false
set_option linter.unusedSimpArgs false
variable {P : Program} {C : Base}
def chainB (ops : Array Oper) : List Nat → Bool
  | c :: d :: r => reach ops ops.size d c && chainB ops (d :: r)
  | _ => true
theorem chain_pairwise {ops : Array Oper} {σ : List Nat} (ht : Topo ops σ) : ∀ cs, chainB ops cs = true → List.Pairwise (fun c d => σ.idxOf c < σ.idxOf d) cs
  | [], _ => List.Pairwise.nil
  | [c], _ => List.pairwise_singleton _ _
  | c :: d :: r, h => by
    unfold chainB at h
    rw [Bool.and_eq_true] at h
    have ih := chain_pairwise ht (d :: r) h.2
    have hcd := reach_topo ht _ _ _ h.1
    refine List.pairwise_cons.2 ⟨fun x hx => ?_, ih⟩
    rcases List.mem_cons.1 hx with rfl | hx
    · exact hcd
    · exact Nat.lt_trans hcd ((List.pairwise_cons.1 ih).1 x hx)
theorem float_pos {σ : List Nat} {a : Nat} (ha : a ∈ σ) : ∀ cs : List Nat, (∀ c ∈ cs, c ∈ σ ∧ c ≠ a) → List.Pairwise (fun c d => σ.idxOf c < σ.idxOf d) cs →
    ∃ m, m ≤ cs.length ∧ (∀ c ∈ cs.take m, σ.idxOf c < σ.idxOf a) ∧ ∀ c ∈ cs.drop m, σ.idxOf a < σ.idxOf c
  | [], _, _ => ⟨0, Nat.le_refl _, by simp, by simp⟩
  | c :: r, hm, hp => by
    obtain ⟨h1, h2⟩ := hm c (List.mem_cons_self ..)
    obtain ⟨p1, p2⟩ := List.pairwise_cons.1 hp
    rcases idx_tri h1 ha h2 with h | h
    · obtain ⟨m, m1, m2, m3⟩ := float_pos ha r (fun x hx => hm x (List.mem_cons_of_mem _ hx)) p2
      refine ⟨m + 1, by simpa using m1, fun x hx => ?_, fun x hx => m3 x (by simpa using hx)⟩
      rw [List.take_succ_cons] at hx
      rcases List.mem_cons.1 hx with rfl | hx
      · exact h
      · exact m2 x hx
    · refine ⟨0, Nat.zero_le _, by simp, fun x hx => ?_⟩
      rw [List.drop_zero] at hx
      rcases List.mem_cons.1 hx with rfl | hx
      · exact h
      · exact Nat.lt_trans h (p1 x hx)
def floatL (pre cs post : List Nat) (a m : Nat) : List Nat := pre ++ ((cs.take m ++ a :: cs.drop m) ++ post)
/-- A region with one operation at any place among a chain of others. -/
theorem acode_float {id : Nat} {l : List Oper} {env : Env} {H : Heap} {Q : Exit → Env → Heap → Prop} (q : List Nat) (a : Nat) (pre cs post : List Nat) (hm : P.follows .mixedOrders = true) (hok : backB (List.toArray l) = true) (hops : l.all (okOp C.nG) = true)
    (hlt : (decide (a < l.length) && cs.all fun c => decide (c < l.length) && decide (c ≠ a)) = true) (hch : chainB (List.toArray l) cs = true)
    (hL : ((List.range (cs.length + 1)).all fun m => okOrd q (List.toArray l) (floatL pre cs post a m) ((cs.take m).map (fun c => (c, a)) ++ (cs.drop m).map (fun c => (a, c)))) = true)
    (hk : ∀ m, m ≤ cs.length → aops P C (some q) (List.toArray l) (opsOf (List.toArray l) (floatL pre cs post a m)) env H (Knorm Q)) : acode P C (.region id (List.toArray l) true) env H Q := by
  rw [acode, if_pos rfl]
  refine .inr (A_order (q := q) hm hok (by simpa using hops) fun σ hT => ?_)
  simp only [Bool.and_eq_true, decide_eq_true_eq, List.all_eq_true] at hlt
  have mem : ∀ i, i < l.length → i ∈ σ := fun i hi => (hT.mem i).2 (by simpa using hi)
  obtain ⟨m, m1, m2, m3⟩ := float_pos (mem a hlt.1) cs (fun c hc => ⟨mem c (hlt.2 c hc).1, (hlt.2 c hc).2⟩) (chain_pairwise hT cs hch)
  refine ⟨_, compat_of (List.all_eq_true.1 hL m (List.mem_range.2 (by omega))) hT (fun p hp => ?_), hk m m1⟩
  rcases List.mem_append.1 hp with hp | hp
  · obtain ⟨c, hc, rfl⟩ := List.mem_map.1 hp
    exact m2 c hc
  · obtain ⟨c, hc, rfl⟩ := List.mem_map.1 hp
    exact m3 c hc
theorem opsOf_append {ops : Array Oper} (A B : List Nat) : opsOf ops (A ++ B) = opsOf ops A ++ opsOf ops B := by unfold opsOf; rw [List.filterMap_append]
end Go.Proofs.YtlfpjdcogkcjlaaGreatDoor.AL
