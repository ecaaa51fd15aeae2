/- What the row's list gives; the heap in which a law begins. -/
import Derived.Test.YtlfpjdcogkcjlaaGreatDoorT28
import Derived.Test.YtlfpjdcogkcjlaaGreatDoorT29
import Derived.Lib.LaidTab
import Derived.ChangeSame
import Derived.FnData
namespace Go.Proofs.YtlfpjdcogkcjlaaGreatDoor.F
open Go.ChangeShapes Go.WideShapes Go.RowKit Go.Deep Go.Proofs.YtlfpjdcogkcjlaaGreatDoor.AL Go.Proofs.YtlfpjdcogkcjlaaGreatDoor.B
set_option linter.unusedVariables false
set_option maxRecDepth 100000
theorem laid_mem {P : Program} {w : World} : ∀ {l : List (String × DataW Unit)} {ps : List MemPlace}, DataW.LaidVars P w l ps → ∀ (n : String) (d : DataW Unit), (n, d) ∈ l → ∃ g t cs fuel p, P.globalNamed n = some g ∧ (P.globals[g]?).map (·.type) = some t ∧ w.var? P n = some cs ∧ DataW.trod (fun _ => ()) P w 0 (fun _ => true) false fuel t cs.toList = some (d, p)
  | [], _, _, _, _, h => by cases h
  | (n', d') :: r, ps, h, n, d, hm => by
    obtain ⟨g, t, cs, fuel, p, q, h1, h2, h3, h4, h5, e⟩ := h
    rcases List.mem_cons.1 hm with he | hm
    · cases he
      exact ⟨g, t, cs, fuel, p, h1, h2, h3, h4⟩
    · exact laid_mem h5 n d hm
theorem laid_at {W : World} (h : laidMetH Tryz.prog laid W) (i : Nat) (n : String) (d : DataW Unit) (hi : laid[i]? = some (n, d)) {g : Nat} {t : TypeId} (hg : Tryz.prog.globalNamed n = some g) (ht : (Tryz.prog.globals[g]?).map (·.type) = some t) :
    ∃ cs fuel p, W.var? Tryz.prog n = some cs ∧ DataW.trod (fun _ => ()) Tryz.prog W 0 (fun _ => true) false fuel t cs.toList = some (d, p) := by
  rw [MakeChecks.laidMetH_plain _ _ _ (by kernel_rfl)] at h
  obtain ⟨ps, hv, _⟩ := h
  obtain ⟨g', t', cs, fuel, p, h1, h2, h3, h4⟩ := laid_mem hv n d (List.mem_of_getElem? hi)
  obtain rfl := Option.some.inj (hg.symm.trans h1)
  obtain rfl := Option.some.inj (ht.symm.trans h2)
  exact ⟨cs, fuel, p, h3, h4⟩
theorem laid_tab {W : World} (h : laidMetH Tryz.prog laid W) (i : Nat) (n : String) {k : IntKind} {zs : List Int} (hi : laid[i]? = some (n, Lib.tabData k zs)) {g : Nat} {t e : TypeId} {m : Nat} (hg : Tryz.prog.globalNamed n = some g) (ht : (Tryz.prog.globals[g]?).map (·.type) = some t)
    (hu : Tryz.prog.underlying t = some (.array m e)) (he : Tryz.prog.underlying e = some (.int k)) (hce : Tryz.prog.cellsOf e = 1) (hct : Tryz.prog.cellsOf t = m) : Lib.TabIs Tryz.prog W n k zs := by
  obtain ⟨cs, fuel, p, h3, h4⟩ := laid_at h i n _ hi hg ht
  unfold Lib.TabIs
  rw [h3, ← Lib.cells_of_tab hu he hce hct h4]
theorem c84 : Tryz.prog.cellsOf 84 = 2 := by kernel_rfl
theorem c3 : Tryz.prog.cellsOf 3 = 1 := by kernel_rfl
theorem laid_day {W : World} (h : laidMetH Tryz.prog laid W) (i : Nat) (n : String) {a b : Int} (hi : laid[i]? = some (n, .agg [.lit (.int .i64 a), .lit (.int .i64 b)])) {g : Nat} (hg : Tryz.prog.globalNamed n = some g) (ht : (Tryz.prog.globals[g]?).map (·.type) = some 84) :
    W.cell? ⟨g, 0, none⟩ = some (.int .i64 a) ∧ W.cell? ⟨g, 1, none⟩ = some (.int .i64 b) := by
  obtain ⟨cs, fuel, p, h3, h4⟩ := laid_at h i n _ hi hg ht
  obtain ⟨y0, y1, m, e, hl, r0, r1⟩ := trod_struct2 Tryz.underlying84 h4
  obtain ⟨n0, e0, f0, _⟩ := DataW.trod_int Tryz.underlying3 r0
  obtain ⟨n1, e1, f1, _⟩ := DataW.trod_int Tryz.underlying3 r1
  subst f0; subst f1
  simp only [Prod.mk.injEq, DataW.agg.injEq, List.cons.injEq, DataW.lit.injEq, Lit.int.injEq, true_and, and_true] at e
  obtain ⟨⟨rfl, rfl⟩, _⟩ := e
  rw [World.var?_cell hg h3, World.var?_cell hg h3]
  obtain ⟨l⟩ := cs
  rw [c84] at hl
  match l, hl with
  | [v0, v1], _ =>
    have k3 : Tryz.prog.cellsOf 3 = 1 := c3
    simp only [k3, List.drop_zero, List.take_succ_cons, List.take_zero, List.cons.injEq, and_true] at e0
    simp only [k3, List.drop_succ_cons, List.drop_zero, List.take_succ_cons, List.take_zero, List.cons.injEq, and_true] at e1
    subst e0; subst e1
    exact ⟨rfl, rfl⟩
theorem trod_err {P : Program} {w : World} {t : TypeId} {ms : Array (String × TypeId)} {fuel : Nat} {cs : List Value} {x : DataW Unit × List MemPlace} (ht : P.underlying t = some (.interface ms)) (h : DataW.trod (fun _ => ()) P w 0 (fun _ => true) false fuel t cs = some x) :
    ∃ ev, cs = [ev] ∧ (ev = .nilIface ∨ ∃ te pe, ev = .iface te pe) := by
  cases fuel with
  | zero => simp [DataW.trod] at h
  | succ n =>
    unfold DataW.trod at h
    rw [ht] at h
    split at h <;> simp_all
theorem laid_err {W : World} (h : laidMetH Tryz.prog laid W) (i : Nat) (n : String) {d : DataW Unit} (hi : laid[i]? = some (n, d)) {g : Nat} (hg : Tryz.prog.globalNamed n = some g) (ht : (Tryz.prog.globals[g]?).map (·.type) = some 67) :
    ∃ ev, W.cell? ⟨g, 0, none⟩ = some ev ∧ (ev = .nilIface ∨ ∃ te pe, ev = .iface te pe) := by
  obtain ⟨cs, fuel, p, h3, h4⟩ := laid_at h i n _ hi hg ht
  obtain ⟨ev, e, hev⟩ := trod_err Tryz.underlying67 h4
  refine ⟨ev, ?_, hev⟩
  rw [World.var?_cell hg h3]
  obtain ⟨l⟩ := cs
  simp only at e
  subst e
  rfl
theorem glob_of {W : World} (h : laidMetH Tryz.prog laid W) : Glob W where
  ascii := laid_tab h 7 _ (by kernel_rfl) gAscii (t := 172) (by kernel_rfl) Tryz.underlying172 Tryz.underlying5 (by kernel_rfl) (by kernel_rfl)
  pow := laid_tab h 2 _ (by kernel_rfl) gPow (t := 211) (by kernel_rfl) Tryz.underlying211 (by kernel_rfl) (by kernel_rfl) (by kernel_rfl)
  errR := laid_err h 4 "strconv.ErrRange" (d := Rows.laid_strconv_ErrRange) (by kernel_rfl) (by kernel_rfl) (by kernel_rfl)
  errS := laid_err h 5 "strconv.ErrSyntax" (d := Rows.laid_strconv_ErrSyntax) (by kernel_rfl) (by kernel_rfl) (by kernel_rfl)
  mo := laid_day h 8 "pub-hebdomad/pub/rrule.MO" (by kernel_rfl) (by kernel_rfl) (by kernel_rfl)
  tu := laid_day h 9 "pub-hebdomad/pub/rrule.TU" (by kernel_rfl) (by kernel_rfl) (by kernel_rfl)
  we := laid_day h 10 "pub-hebdomad/pub/rrule.WE" (by kernel_rfl) (by kernel_rfl) (by kernel_rfl)
  th := laid_day h 11 "pub-hebdomad/pub/rrule.TH" (by kernel_rfl) (by kernel_rfl) (by kernel_rfl)
  fr := laid_day h 12 "pub-hebdomad/pub/rrule.FR" (by kernel_rfl) (by kernel_rfl) (by kernel_rfl)
  sa := laid_day h 13 "pub-hebdomad/pub/rrule.SA" (by kernel_rfl) (by kernel_rfl) (by kernel_rfl)
  su := laid_day h 14 "pub-hebdomad/pub/rrule.SU" (by kernel_rfl) (by kernel_rfl) (by kernel_rfl)
/-- The objects of the variables and their places. -/
def vars19 : List (AObj × (Nat × Nat)) := [(.ro [vI 0, vI 0], (0, 0)), (.gone, (1, 0)), (.ro [vI 1, vI 0], (2, 0)), (.ro [vI 2, vI 0], (3, 0)), (.ro [vI 3, vI 0], (4, 0)), (.ro [vI 4, vI 0], (5, 0)), (.ro [vI 5, vI 0], (6, 0)), (.ro [vI 6, vI 0], (7, 0)),
  (.gone, (8, 0)), (.gone, (9, 0)), (.gone, (10, 0)), (.gone, (11, 0)), (.gone, (12, 0)), (.gone, (13, 0)), (.gone, (14, 0)), (.gone, (15, 0)), (.gone, (16, 0)), (.gone, (17, 0)), (.gone, (18, 0))]
def heapOf (L : List (AObj × (Nat × Nat))) : Heap := (vars19 ++ L).map (·.1)
def placesOf (L : List (AObj × (Nat × Nat))) : Places := (vars19 ++ L).map (·.2)
theorem heapOf_GH (L : List (AObj × (Nat × Nat))) : GH (heapOf L) := ⟨rfl, rfl, rfl, rfl, rfl, rfl, rfl⟩
theorem ro_day {W : World} {b : Nat} {a c : Int} (h : W.cell? ⟨b, 0, none⟩ = some (.int .i64 a) ∧ W.cell? ⟨b, 1, none⟩ = some (.int .i64 c)) (m : Places) : relO (CB W) m W (b, 0) (.ro [vI a, vI c]) := by
  obtain ⟨arr, e, fr, hb, _⟩ := cell_block h.1
  refine ⟨(Array.getElem?_eq_some_iff.1 hb).1, fun j v hj => ?_⟩
  match j with
  | 0 =>
    simp only [List.getElem?_cons_zero, Option.some.injEq] at hj
    subst hj
    exact ⟨_, h.1, rfl⟩
  | 1 =>
    simp only [List.getElem?_cons_succ, List.getElem?_cons_zero, Option.some.injEq] at hj
    subst hj
    exact ⟨_, h.2, rfl⟩
  | j + 2 => simp at hj
theorem heap_rep {W : World} (hG : Glob W) (L : List (AObj × (Nat × Nat))) (hL : ∀ p ∈ L, (∀ m : Places, relO (CB W) m W p.2 p.1) ∧ p.1.mine = false) : RepH (CB W) (placesOf L) W (heapOf L) := by
  have hall : ∀ p ∈ vars19 ++ L, (∀ m : Places, relO (CB W) m W p.2 p.1) ∧ p.1.mine = false := by
    intro p hp
    rcases List.mem_append.1 hp with hp | hp
    · simp only [vars19, List.mem_cons, List.mem_nil_iff, or_false] at hp
      rcases hp with rfl | rfl | rfl | rfl | rfl | rfl | rfl | rfl | rfl | rfl | rfl | rfl | rfl | rfl | rfl | rfl | rfl | rfl | rfl
      · exact ⟨ro_day hG.mo, rfl⟩
      · exact ⟨fun _ => trivial, rfl⟩
      · exact ⟨ro_day hG.tu, rfl⟩
      · exact ⟨ro_day hG.we, rfl⟩
      · exact ⟨ro_day hG.th, rfl⟩
      · exact ⟨ro_day hG.fr, rfl⟩
      · exact ⟨ro_day hG.sa, rfl⟩
      · exact ⟨ro_day hG.su, rfl⟩
      all_goals exact ⟨fun _ => trivial, rfl⟩
    · exact hL p hp
  have hget : ∀ (o : Nat) x b, (heapOf L)[o]? = some x → (placesOf L)[o]? = some b → (x, b) ∈ vars19 ++ L := by
    intro o x b h1 h2
    unfold heapOf at h1
    unfold placesOf at h2
    rw [List.getElem?_map] at h1 h2
    cases hk : (vars19 ++ L)[o]? with
    | none => rw [hk] at h1; cases h1
    | some p =>
      rw [hk] at h1 h2
      simp only [Option.map_some, Option.some.injEq] at h1 h2
      subst h1; subst h2
      exact List.mem_of_getElem? hk
  exact {
    below := Below.refl _ _
    size := Nat.le_refl _
    len := by unfold placesOf heapOf; simp
    glob := fun g hg => by
      have : g < 19 := hg
      have e : ∀ g, g < 19 → (vars19.map (·.2))[g]? = some (g, 0) := by decide
      unfold placesOf
      rw [List.map_append, List.getElem?_append_left (by show g < 19; exact this)]
      exact e g this
    obj := fun o x b h1 h2 => (hall _ (hget o x b h1 h2)).1 _
    apart := fun o o' x x' b b' _ h1 h2 h3 h4 hm => by
      have := (hall _ (hget o x b h1 h3)).2
      simp only at this
      rw [this] at hm
      cases hm }
theorem heapOf_get {L : List (AObj × (Nat × Nat))} {k : Nat} {p : AObj × (Nat × Nat)} (h : L[k]? = some p) : (heapOf L)[19 + k]? = some p.1 ∧ (placesOf L)[19 + k]? = some p.2 := by
  have : (vars19 ++ L)[19 + k]? = some p := by
    rw [List.getElem?_append_right (by show 19 ≤ 19 + k; omega)]
    show L[19 + k - 19]? = _
    rw [show 19 + k - 19 = k by omega, h]
  unfold heapOf placesOf
  rw [List.getElem?_map, List.getElem?_map, this]
  exact ⟨rfl, rfl⟩
end Go.Proofs.YtlfpjdcogkcjlaaGreatDoor.F
