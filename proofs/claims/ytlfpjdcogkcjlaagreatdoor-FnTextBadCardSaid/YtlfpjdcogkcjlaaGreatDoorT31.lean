/- A rule that comes in. -/
import Derived.Test.YtlfpjdcogkcjlaaGreatDoorT30
import Derived.Test.YtlfpjdcogkcjlaaGreatDoorT27
namespace Go.Proofs.YtlfpjdcogkcjlaaGreatDoor.F
open Go.ChangeShapes Go.WideShapes Go.RowKit Go.Deep Go.Proofs.YtlfpjdcogkcjlaaGreatDoor.AL Go.Proofs.YtlfpjdcogkcjlaaGreatDoor.B
set_option linter.unusedVariables false
set_option maxRecDepth 100000
theorem one25 : ∀ fs, Tryz.prog.underlying 25 = some (.struct fs) → oneCellFields Tryz.prog fs = true := by
  intro fs h
  rw [Tryz.underlying25] at h
  simp only [Option.some.injEq, TypeDesc.struct.injEq] at h
  subst h
  kernel_rfl
theorem c25 : Tryz.prog.cellsOf 25 = 18 := by kernel_rfl
section
variable {H : Type} {enc : TypeId × Value → H} {W : World}
/-- A rule that comes in: its cells as values of the abstract heap, if the ten slices' objects stand from place k on. -/
theorem rule_obj {r : Reach} {b0 : Nat} {v : Value} {d : DataW H} {p : List MemPlace} (hW : 0 < W.heap.size) (hv : Value.okWide Tryz.prog W r b0 25 v) (h : DataW.Trod enc Tryz.prog W 0 (fun _ => true) true 25 v d p) :
    ∃ (ru : Ru) (xs : Nat → Rs) (L : List (AObj × (Nat × Nat))), RuNum ru ∧ L.length = 10 ∧ (∀ q ∈ L, (∀ m : Places, relO (CB W) m W q.2 q.1) ∧ q.1.mine = false) ∧
      (∀ (k : Nat) (H : Heap), (∀ i p, L[i]? = some p → H[k + i]? = some p.1) → RuAt H ru (xs k)) ∧
      (∀ (k : Nat) (m : Places), (∀ i p, L[i]? = some p → m[k + i]? = some p.2) → AL.rel m W (.agg (ruCells ru (xs k))) v) := by
  obtain ⟨l, rfl, hl, n, hf⟩ := open_fields Tryz.underlying25 (one25 _ Tryz.underlying25) c25 hv h
  match l, hl with
  | [a0, a1, a2, a3, a4, a5, a6, a7, a8, a9, a10, a11, a12, a13, a14, a15, a16, a17], _ =>
  obtain ⟨_, h0⟩ := hf 0 _ _ rfl rfl
  obtain ⟨_, h1⟩ := hf 1 _ _ rfl rfl
  obtain ⟨_, h2⟩ := hf 2 _ _ rfl rfl
  obtain ⟨_, h3⟩ := hf 3 _ _ rfl rfl
  obtain ⟨_, h4⟩ := hf 4 _ _ rfl rfl
  obtain ⟨_, h5⟩ := hf 5 _ _ rfl rfl
  obtain ⟨_, h6⟩ := hf 6 _ _ rfl rfl
  obtain ⟨_, h7⟩ := hf 7 _ _ rfl rfl
  obtain ⟨_, h8⟩ := hf 8 _ _ rfl rfl
  obtain ⟨_, h9⟩ := hf 9 _ _ rfl rfl
  obtain ⟨_, h10⟩ := hf 10 _ _ rfl rfl
  obtain ⟨_, h11⟩ := hf 11 _ _ rfl rfl
  obtain ⟨_, h12⟩ := hf 12 _ _ rfl rfl
  obtain ⟨_, h13⟩ := hf 13 _ _ rfl rfl
  obtain ⟨_, h14⟩ := hf 14 _ _ rfl rfl
  obtain ⟨_, h15⟩ := hf 15 _ _ rfl rfl
  obtain ⟨_, h16⟩ := hf 16 _ _ rfl rfl
  obtain ⟨_, h17⟩ := hf 17 _ _ rfl rfl
  clear hf
  obtain ⟨n0, e0, _, w0⟩ := DataW.trod_int Tryz.underlying5 h0
  obtain ⟨n1, e1, _⟩ := DataW.trod_bool Tryz.underlying4 h1
  obtain ⟨n2, e2, _, w2⟩ := DataW.trod_int Tryz.underlying2 h2
  obtain ⟨n3, e3, _, w3⟩ := DataW.trod_int Tryz.underlying3 h3
  obtain ⟨n4, e4, _, w4⟩ := DataW.trod_int Tryz.underlying3 h4
  obtain ⟨n5, e5, _, w5⟩ := DataW.trod_int Tryz.underlying3 h5
  obtain ⟨n6, e6, _⟩ := DataW.trod_bool Tryz.underlying4 h6
  obtain ⟨n7, e7, _, w7⟩ := DataW.trod_int Tryz.underlying2 h7
  obtain ⟨x8, q8, o8, l8, k8, s8, r8⟩ := ints_obj Tryz.underlying22 Tryz.underlying3 c3 hW h8
  obtain ⟨x9, q9, o9, l9, k9, s9, r9⟩ := ints_obj Tryz.underlying22 Tryz.underlying3 c3 hW h9
  obtain ⟨x10, q10, o10, l10, k10, s10, r10⟩ := ints_obj Tryz.underlying22 Tryz.underlying3 c3 hW h10
  obtain ⟨x11, q11, o11, l11, k11, s11, r11⟩ := ints_obj Tryz.underlying22 Tryz.underlying3 c3 hW h11
  obtain ⟨x12, q12, o12, l12, k12, s12, r12⟩ := ints_obj Tryz.underlying22 Tryz.underlying3 c3 hW h12
  obtain ⟨x13, q13, o13, l13, k13, s13, r13⟩ := days_obj Tryz.underlying23 Tryz.underlying47 (by kernel_rfl) rfl rfl c3 c3 Tryz.underlying3 Tryz.underlying3 hW h13
  obtain ⟨x14, q14, o14, l14, k14, s14, r14⟩ := ints_obj Tryz.underlying22 Tryz.underlying3 c3 hW h14
  obtain ⟨x15, q15, o15, l15, k15, s15, r15⟩ := ints_obj Tryz.underlying22 Tryz.underlying3 c3 hW h15
  obtain ⟨x16, q16, o16, l16, k16, s16, r16⟩ := ints_obj Tryz.underlying22 Tryz.underlying3 c3 hW h16
  obtain ⟨x17, q17, o17, l17, k17, s17, r17⟩ := ints_obj Tryz.underlying22 Tryz.underlying3 c3 hW h17
  clear h0 h1 h2 h3 h4 h5 h6 h7 h8 h9 h10 h11 h12 h13 h14 h15 h16 h17
  simp only [List.cons.injEq, and_true] at e0 e1 e2 e3 e4 e5 e6 e7
  subst e0; subst e1; subst e2; subst e3; subst e4; subst e5; subst e6; subst e7
  have b0 := wf_range8 w0
  obtain ⟨f, rfl⟩ : ∃ f : Nat, n0 = (f : Int) := ⟨n0.toNat, by omega⟩
  refine ⟨⟨f, n1, n2, n3, n4, n5, n6, n7, l8, l9, l10, l11, l12, l13, l14, l15, l16, l17⟩, fun k => ⟨x8 (k + 0), x9 (k + 1), x10 (k + 2), x11 (k + 3), x12 (k + 4), x13 (k + 5), x14 (k + 6), x15 (k + 7), x16 (k + 8), x17 (k + 9)⟩,
    [(o8, q8), (o9, q9), (o10, q10), (o11, q11), (o12, q12), (o13, q13), (o14, q14), (o15, q15), (o16, q16), (o17, q17)],
    ⟨by show f ≤ 255; omega, wf_range w2, wf_range w7, wf_range w3, wf_range w4, wf_range w5, r8, r9, r10, r11, r12, r14, r15, r16, r17, r13⟩, rfl, ?_, ?_, ?_⟩
  · intro q hq
    simp only [List.mem_cons, List.mem_nil_iff, or_false] at hq
    rcases hq with rfl | rfl | rfl | rfl | rfl | rfl | rfl | rfl | rfl | rfl
    · exact ⟨k8.relO, k8.mine⟩
    · exact ⟨k9.relO, k9.mine⟩
    · exact ⟨k10.relO, k10.mine⟩
    · exact ⟨k11.relO, k11.mine⟩
    · exact ⟨k12.relO, k12.mine⟩
    · exact ⟨k13.relO, k13.mine⟩
    · exact ⟨k14.relO, k14.mine⟩
    · exact ⟨k15.relO, k15.mine⟩
    · exact ⟨k16.relO, k16.mine⟩
    · exact ⟨k17.relO, k17.mine⟩
  · intro k H hH
    exact ⟨s8 _ _ (hH 0 _ rfl), s9 _ _ (hH 1 _ rfl), s10 _ _ (hH 2 _ rfl), s11 _ _ (hH 3 _ rfl), s12 _ _ (hH 4 _ rfl), s13 _ _ (hH 5 _ rfl), s14 _ _ (hH 6 _ rfl), s15 _ _ (hH 7 _ rfl), s16 _ _ (hH 8 _ rfl), s17 _ _ (hH 9 _ rfl)⟩
  · intro k m hm
    exact ⟨_, rfl, rfl, rfl, rfl, rfl, rfl, rfl, rfl, rfl, k8.rel _ _ (hm 0 _ rfl), k9.rel _ _ (hm 1 _ rfl), k10.rel _ _ (hm 2 _ rfl), k11.rel _ _ (hm 3 _ rfl), k12.rel _ _ (hm 4 _ rfl), k13.rel _ _ (hm 5 _ rfl), k14.rel _ _ (hm 6 _ rfl), k15.rel _ _ (hm 7 _ rfl), k16.rel _ _ (hm 8 _ rfl), k17.rel _ _ (hm 9 _ rfl), trivial⟩
end
end Go.Proofs.YtlfpjdcogkcjlaaGreatDoor.F
