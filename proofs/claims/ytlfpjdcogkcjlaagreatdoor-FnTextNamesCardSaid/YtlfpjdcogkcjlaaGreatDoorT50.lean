/- PROVED: whatever frequency and weekday come in, laws.FnTextNames returns true and its arguments read as before (the tied card of the first form). Conditions: the listed package variables hold what the program lays; nothing else. -/
import Derived.Test.YtlfpjdcogkcjlaaGreatDoorM6
import Derived.Test.YtlfpjdcogkcjlaaGreatDoorCards
import Derived.Test.YtlfpjdcogkcjlaaGreatDoorTie
import Derived.WalkKit
import Derived.ProofKit
import Derived.OpenShut
import Derived.ChangeOld
import Derived.ChangeSame
import Derived.Below
import Derived.Carry
import Derived.SevenTiedAt
namespace Go.Proofs.YtlfpjdcogkcjlaaGreatDoor.F
open Go.ChangeShapes Go.WideShapes Go.ChangeAt Go.RowKit Go.Deep Go.Proofs.YtlfpjdcogkcjlaaGreatDoor.AL
set_option linter.unusedVariables false
set_option maxRecDepth 100000
theorem one47 : ∀ fs, Tryz.prog.underlying 47 = some (.struct fs) → oneCellFields Tryz.prog fs = true := by
  intro fs h
  rw [Tryz.underlying47] at h
  simp only [Option.some.injEq, TypeDesc.struct.injEq] at h
  subst h
  kernel_rfl
theorem c47 : Tryz.prog.cellsOf 47 = 2 := by kernel_rfl
theorem laidOut' : laidOutB Tryz.prog = true := by kernel_rfl
end Go.Proofs.YtlfpjdcogkcjlaaGreatDoor.F
namespace Go.Proofs.YtlfpjdcogkcjlaaGreatDoor.FnTextNames
open Go.ChangeShapes Go.WideShapes Go.ChangeAt Go.RowKit Go.Proofs.YtlfpjdcogkcjlaaGreatDoor.AL Go.Proofs.YtlfpjdcogkcjlaaGreatDoor.F
set_option linter.unusedVariables false
set_option maxRecDepth 100000
/-- What the walk gives, for every argument and every world that holds the variables. -/
theorem contract (H : Type) (enc : TypeId × Value → H) (W : World) (base : Nat) (args : Array Value) (ds gs : List (DataW H)) (before : List MemPlace)
    (hval : ∀ (j : Nat) t v, Tryz.f7.params[j]? = some t → args[j]? = some v → Value.okWide Tryz.prog W .any base t v)
    (hW : DataW.Whole enc Tryz.prog Tryz.f7.params.toList Rows.fnTextNamesSpec.vars false W args.toList ds gs before) (hL : laidMetH Tryz.prog laid W) :
    Calls Tryz.prog 7 args W fun e W' => ∃ v, e = .returned v ∧ Rows.fnTextNamesSpec.post enc Tryz.prog Tryz.f7 false true false false W args v W' := by
  have hW' := hW
  obtain ⟨p, q, hA0, hV, rfl, hfz, hnd⟩ := hW
  have hA : DataW.TrodAll enc Tryz.prog W 0 (fun _ => true) true Tryz.f7.params.toList args.toList ds p := hA0
  rw [Tryz.params7] at hA hval
  obtain ⟨v0, vs0, d0, ds0, p0, q0, hargs, rfl, rfl, h0, r0⟩ := trodAll_cons hA
  obtain ⟨v1, vs1, d1, ds1, p1, q1, rfl, rfl, rfl, h1, r1⟩ := trodAll_cons r0
  obtain ⟨rfl, rfl, rfl⟩ := trodAll_nil r1
  obtain rfl : args = #[v0, v1] := by cases args; simp_all
  obtain ⟨rfl, rfl⟩ := trodVars_none hV
  obtain ⟨w, rfl, rfl, rfl, ww⟩ := open_int Tryz.underlying5 (hval 0 5 v0 rfl rfl) h0
  have hG := glob_of hL
  have k1 := h1
  have lt1 : ∀ x ∈ p1, x.block < W.heap.size := by obtain ⟨m, hm⟩ := k1; exact DataW.trod_lt m _ _ _ hm
  obtain ⟨l, rfl, hl, n, hf⟩ := open_fields Tryz.underlying47 (one47 _ Tryz.underlying47) c47 (hval 1 47 v1 rfl rfl) h1
  match l, hl with
  | [a0, a1], _ =>
  obtain ⟨_, t0⟩ := hf 0 _ _ rfl rfl
  obtain ⟨_, t1⟩ := hf 1 _ _ rfl rfl
  obtain ⟨n0, e0, _, w0⟩ := DataW.trod_int Tryz.underlying3 t0
  obtain ⟨n1, e1, _, w1⟩ := DataW.trod_int Tryz.underlying3 t1
  simp only [List.cons.injEq, and_true] at e0 e1
  subst e0; subst e1
  clear hA0
  have bw := wf_range8 ww
  obtain ⟨m, rfl⟩ : ∃ n : Nat, w = (n : Int) := ⟨w.toNat, by omega⟩
  have walk := (fnTextNames_A hG m (by omega) n0 n1 (wf_range w0) (wf_range w1) (heapOf []) (heapOf_GH _)).2 (placesOf []) W #[.int .u8 m, .agg ⟨[.int .i64 n0, .int .i64 n1]⟩] (heap_rep hG _ (by simp))
    ⟨rfl, ⟨_, rfl, rfl, rfl, trivial⟩, trivial⟩
  refine walk.mono fun e W' hh => ?_
  obtain ⟨rv, m', H', r, rfl, hfw, hr, rfl, _⟩ := hh
  have hrv : rv = .bool true := hr
  subst hrv
  have bel : Below W.heap.size W W' := hfw.rep.below
  exact ⟨_, rfl, _, _, _, [], _, [], hW', trodAll_mk1 (shut_bool Tryz.underlying4 _), trodAll_cons_mk (shut_int Tryz.underlying5 ww) (trodAll_cons_mk (Below.trod laidOut' (by kernel_rfl) (of_decide_eq_true (by kernel_rfl)) k1 bel lt1) trodAll_mk0), rfl, bel.frame _, fun h => by cases h⟩
theorem lifted (os : Os) (started : os.Started) (H : Type) (enc : TypeId × Value → H) :
    ReturnsInHanded {} Tryz.checked os 7 .any (fun w args => (Rows.fnTextNamesSpec.pre enc Tryz.prog Tryz.f7 Rows.fnTextNamesRow.domain false w args ∧ laidMetH Tryz.prog laid w) ∧ sizedMet enc Tryz.prog Tryz.f7 (OpenSpec.ofChange Rows.fnTextNamesSpec) false w args)
      (Rows.fnTextNamesSpec.post enc Tryz.prog Tryz.f7 false true false false) := by
  refine returnsInHanded_of_change_and (C := Tryz.checked) (X := fun w _ => laidMetH Tryz.prog laid w) (fun _ _ _ hh h => h.of_heap hh) own started (by kernel_rfl) Tryz.func7
    (ChangeSpec.witness_shaped (enc := enc) (C := Tryz.checked) (os := os) (X := fun w _ => laidMetH Tryz.prog laid w) false (World.laidAll Tryz.prog os laid) #[.int .u8 0, .agg #[.int .i64 0, .int .i64 0]] 8 (World.laidAll_os _ _ _)
      (wit_shaped os _) (by kernel_rfl) (by kernel_rfl) (by kernel_rfl) (wit_met os _)) ?_
  intro W base args ds gs before hval hW _ _ hL _
  exact contract H enc W base args ds gs before hval hW hL
theorem said : Rows.FnTextNamesSaid :=
  OpenClaim.holds_of_wide 7 Tryz.f7 rfl rfl rfl rfl rfl rfl rfl ⟨rfl, rfl, rfl, rfl, rfl⟩ rfl rfl rfl rfl rfl (by kernel_rfl) Tryz.func7 (by kernel_rfl)
    (of_decide_eq_true (by kernel_rfl)) (by unfold Func.isWrapper; first | (rw [if_pos (by decide +kernel)]; kernel_rfl) | (rw [if_neg (by decide +kernel)]; exact ⟨rfl, rfl⟩))
    (fun os started H enc _ => lifted os started H enc)
theorem plain (f : FuncId) (fn : Func) (hf : Tryz.pinned.checked.prog.funcNamed "pub-hebdomad/laws.FnTextNames" = some f) (hfn : Tryz.pinned.checked.prog.funcs[f]? = some fn) :
    true = Tryz.pinned.checked.prog.looks [] ∧ ∀ (j : Nat) t, fn.params[j]? = some t → Tryz.pinned.checked.prog.wantsStandIn t = false := by
  obtain rfl : f = 7 := Option.some.inj ((show Tryz.prog.funcNamed "pub-hebdomad/laws.FnTextNames" = some 7 by kernel_rfl).symm.trans hf) |>.symm
  obtain rfl : fn = Tryz.f7 := (Option.some.inj (Tryz.func7.symm.trans hfn)).symm
  refine ⟨by kernel_rfl, fun j t ht => ?_⟩
  rw [Tryz.params7] at ht
  have hm : t ∈ [5, 47] := by simpa using Array.mem_of_getElem? ht
  have hall : ([5, 47].all fun u => !Tryz.prog.wantsStandIn u) = true := by kernel_rfl
  exact (show Tryz.prog.wantsStandIn t = false by simpa using List.all_eq_true.1 hall t hm)
theorem card : Rows.FnTextNamesCardSaid :=
  Claim7.holds_tied_plain_at .later [] _ _ _ _ said (fun _ h => by cases h) (by kernel_rfl) (fun _ h => by cases h) fnTextNames_row_tie rfl ⟨rfl, rfl⟩ (by kernel_rfl) rfl plain (by kernel_rfl)
#print axioms card
end Go.Proofs.YtlfpjdcogkcjlaaGreatDoor.FnTextNames
