/-
  What a call leaves behind that nobody can reach is left out.
-/
import Derived.Test.YtlfpjdcogkcjlaaGreatDoorALV
namespace Go.Proofs.YtlfpjdcogkcjlaaGreatDoor.AL
open Go.RowKit
set_option linter.unusedVariables false
set_option linter.unusedSimpArgs false
variable {P : Program} {C : Base}

theorem pre_same {m m' : Places} (h : m <+: m') {o : Nat} {b b' : Nat × Nat} (h1 : m[o]? = some b) (h2 : m'[o]? = some b') : b' = b := by
  rw [get_pre h h1] at h2; exact (Option.some.inj h2).symm
mutual
theorem rel_back {m m' : Places} {w w' : World} (hp : m <+: m') : ∀ {c : AV} {u v : Value}, rel m w c u → rel m' w' c v → rel m w' c v
  | .val _, _, _, _, h => h
  | .ptr .., _, _, ⟨b, h1, _⟩, ⟨b', h2, h3⟩ => ⟨b, h1, by rw [← pre_same hp h1 h2]; exact h3⟩
  | .sl .., _, _, ⟨b, _, _, h1, _⟩, ⟨b', a, cap, h2, h3⟩ => ⟨b, a, cap, h1, by rw [← pre_same hp h1 h2]; exact h3⟩
  | .mp _, _, _, ⟨b, h1, _⟩, ⟨b', h2, h3⟩ => ⟨b, h1, by rw [← pre_same hp h1 h2]; exact h3⟩
  | .ifc _ c, _, _, ⟨u, _, h1⟩, ⟨v, h2, h3⟩ => ⟨v, h2, rel_back hp h1 h3⟩
  | .fn _ a c, _, _, ⟨_, _, _, h1, h2⟩, ⟨vs, us, h3, h4, h5⟩ => ⟨vs, us, h3, rels_back hp h1 h4, rels_back hp h2 h5⟩
  | .agg l, _, _, ⟨_, _, h1⟩, ⟨vs, h2, h3⟩ => ⟨vs, h2, rels_back hp h1 h3⟩
  | .tup l, _, _, ⟨_, _, h1⟩, ⟨vs, h2, h3⟩ => ⟨vs, h2, rels_back hp h1 h3⟩
  | .any, _, _, _, _ => trivial
theorem rels_back {m m' : Places} {w w' : World} (hp : m <+: m') : ∀ {l : List AV} {us vs : List Value}, rels m w l us → rels m' w' l vs → rels m w' l vs
  | [], _, [], _, _ => trivial
  | c :: l, u :: us, v :: vs, h1, h2 => ⟨rel_back hp h1.1 h2.1, rels_back hp h1.2 h2.2⟩
  | [], _, _ :: _, _, h => h.elim
  | _ :: _, _, [], _, h => h.elim
  | _ :: _, [], _ :: _, h, _ => h.elim
end
mutual
theorem plain_self (m : Places) (w : World) : ∀ {c : AV} {v : Value}, plain c = some v → rel m w c v
  | .val u, v, h => by simp only [plain, Option.some.injEq] at h; exact h.symm
  | .agg l, v, h => by
    simp only [plain, Option.map_eq_some_iff] at h
    obtain ⟨vs, h1, rfl⟩ := h
    exact ⟨_, rfl, plains_self m w h1⟩
  | .tup l, v, h => by
    simp only [plain, Option.map_eq_some_iff] at h
    obtain ⟨vs, h1, rfl⟩ := h
    exact ⟨_, rfl, plains_self m w h1⟩
  | .ifc t c, v, h => by
    simp only [plain, Option.map_eq_some_iff] at h
    obtain ⟨u, h1, rfl⟩ := h
    exact ⟨_, rfl, plain_self m w h1⟩
  | .ptr .., _, h => by simp [plain] at h
  | .sl .., _, h => by simp [plain] at h
  | .mp .., _, h => by simp [plain] at h
  | .fn .., _, h => by simp [plain] at h
  | .any, _, h => by simp [plain] at h
theorem plains_self (m : Places) (w : World) : ∀ {l : List AV} {vs : List Value}, plains l = some vs → rels m w l vs
  | [], vs, h => by simp only [plains, Option.some.injEq] at h; subst h; trivial
  | c :: l, vs, h => by
    simp only [plains, Option.bind_eq_some_iff, Option.map_eq_some_iff] at h
    obtain ⟨v, h1, vs', h2, rfl⟩ := h
    exact ⟨plain_self m w h1, plains_self m w h2⟩
end

theorem relO_back {m m' : Places} {w w' : World} (hp : m <+: m') {b : Nat × Nat} {x : AObj} (h1 : relO C m w b x) (h2 : relO C m' w' b x) : relO C m w' b x := by
  cases x with
  | gone => trivial
  | ro cs =>
    refine ⟨h2.1, fun j c hj => ?_⟩
    obtain ⟨v, k1, k2⟩ := h2.2 j c hj
    obtain ⟨u, k3, k4⟩ := h1.2 j c hj
    exact ⟨v, k1, rel_back hp k4 k2⟩
  | own e cs =>
    obtain ⟨p1, arr, p2, p3, p4⟩ := h2
    obtain ⟨q1, arr', q2, q3, q4⟩ := h1
    refine ⟨p1, arr, p2, p3, fun j c hj => ?_⟩
    obtain ⟨v, k1, k2⟩ := p4 j c hj
    obtain ⟨u, k3, k4⟩ := q4 j c hj
    exact ⟨v, k1, rel_back hp k4 k2⟩
  | map es =>
    obtain ⟨p1, ens, ck, p2, p3, p4⟩ := h2
    obtain ⟨q1, ens', ck', q2, q3, q4⟩ := h1
    refine ⟨p1, ens, ck, p2, p3, fun j k c hj => ?_⟩
    obtain ⟨v, k1, k2, k3⟩ := p4 j k c hj
    obtain ⟨u, k4, k5, k6⟩ := q4 j k c hj
    exact ⟨v, k1, k2, rel_back hp k6 k3⟩
theorem RepH.back {m m' : Places} {w w' : World} {H G : Heap} (h : RepH C m w H) (h' : RepH C m' w' (H ++ G)) (hp : m <+: m') : RepH C m w' H where
  below := h'.below
  size := h'.size
  len := h.len
  glob := h.glob
  obj := fun o x b hx hb => relO_back hp (h.obj o x b hx hb) (h'.obj o x b (get_more hx) (get_pre hp hb))
  apart := fun o o' x x' b b' n h1 h2 h3 h4 => h'.apart o o' x x' b b' n (get_more h1) (get_more h2) (get_pre hp h3) (get_pre hp h4)
theorem get_more' {H G : Heap} {o : Nat} {x : AObj} (h : H[o]? = some x) : (H ++ G)[o]? = some x := get_more h
/-- A plain answer leads to nothing: what was made is left out. -/
theorem ACalls.plain {f : FuncId} {args : List AV} {H : Heap} {R : AV → Prop} (h : ACalls P C f args H fun r H' => R r ∧ ∃ G, H' = H ++ G) (hx : ∀ r, R r → ∃ u, plain r = some u) : ACalls P C f args H fun r H' => R r ∧ H' = H :=
  ⟨h.1, fun m w vals h1 h2 => (h.2 m w vals h1 h2).mono fun e w' ⟨rv, m', H', r, a, b, c, hr, G, hG⟩ => by
    subst hG
    obtain ⟨u, hu⟩ := hx r hr
    exact ⟨rv, m, H, r, a, ⟨List.prefix_refl m, b.szs, h1.back b.rep b.pre⟩, by rw [plain_rel hu c]; exact plain_self m w' hu, hr, rfl⟩⟩
theorem ACalls.plain1 {f : FuncId} {args : List AV} {H : Heap} {x : AV} {u : Value} (hx : AL.plain x = some u) (h : ACalls P C f args H fun r H' => r = x ∧ ∃ G, H' = H ++ G) : ACalls P C f args H fun r H' => r = x ∧ H' = H :=
  h.plain fun r hr => ⟨u, by rw [hr]; exact hx⟩
end Go.Proofs.YtlfpjdcogkcjlaaGreatDoor.AL
