/- PROVED: whatever rule come in, laws.FnTextBack returns true and its arguments read as before (the tied card of the first form). Conditions: the listed package variables hold what the program lays; nothing else. -/
import Derived.Test.YtlfpjdcogkcjlaaGreatDoorM6
import Derived.Test.YtlfpjdcogkcjlaaGreatDoorCards
import Derived.Test.YtlfpjdcogkcjlaaGreatDoorTie
import Derived.WalkKit
import Derived.ProofKit
import Derived.OpenShut
import Derived.ChangeOld
import Derived.ChangeSame
import Derived.Below
import Derived.Carry
import Derived.SevenTiedAt
namespace Go.Proofs.YtlfpjdcogkcjlaaGreatDoor.F
open Go.ChangeShapes Go.WideShapes Go.ChangeAt Go.RowKit Go.Deep Go.Proofs.YtlfpjdcogkcjlaaGreatDoor.AL
set_option linter.unusedVariables false
set_option maxRecDepth 100000
theorem laidOut : laidOutB Tryz.prog = true := by kernel_rfl
end Go.Proofs.YtlfpjdcogkcjlaaGreatDoor.F
namespace Go.Proofs.YtlfpjdcogkcjlaaGreatDoor.FnTextBack
open Go.ChangeShapes Go.WideShapes Go.ChangeAt Go.RowKit Go.Proofs.YtlfpjdcogkcjlaaGreatDoor.AL Go.Proofs.YtlfpjdcogkcjlaaGreatDoor.F
set_option linter.unusedVariables false
set_option maxRecDepth 100000
/-- What the walk gives, for every argument and every world that holds the variables. -/
theorem contract (H : Type) (enc : TypeId × Value → H) (W : World) (base : Nat) (args : Array Value) (ds gs : List (DataW H)) (before : List MemPlace)
    (hval : ∀ (j : Nat) t v, Tryz.f9.params[j]? = some t → args[j]? = some v → Value.okWide Tryz.prog W .any base t v)
    (hW : DataW.Whole enc Tryz.prog Tryz.f9.params.toList Rows.fnTextBackSpec.vars false W args.toList ds gs before) (hL : laidMetH Tryz.prog laid W) :
    Calls Tryz.prog 9 args W fun e W' => ∃ v, e = .returned v ∧ Rows.fnTextBackSpec.post enc Tryz.prog Tryz.f9 false true false false W args v W' := by
  have hW' := hW
  obtain ⟨p, q, hA0, hV, rfl, hfz, hnd⟩ := hW
  have hA : DataW.TrodAll enc Tryz.prog W 0 (fun _ => true) true Tryz.f9.params.toList args.toList ds p := hA0
  rw [Tryz.params9] at hA hval
  obtain ⟨v0, vs0, d0, ds0, p0, q0, hargs, rfl, rfl, h0, r0⟩ := trodAll_cons hA
  obtain ⟨rfl, rfl, rfl⟩ := trodAll_nil r0
  obtain rfl : args = #[v0] := by cases args; simp_all
  obtain ⟨rfl, rfl⟩ := trodVars_none hV
  have hG := glob_of hL
  have hpos : 0 < W.heap.size := by
    obtain ⟨arr, e, fr, hb, _⟩ := cell_block hG.mo.1
    have := (Array.getElem?_eq_some_iff.1 hb).1
    omega
  obtain ⟨ru, xs, L, hnum, hll, hLo, hat, hrel⟩ := rule_obj hpos (hval 0 25 v0 rfl rfl) h0
  clear hA0
  have k0 := h0
  have lt0 : ∀ x ∈ p0, x.block < W.heap.size := by obtain ⟨m, hm⟩ := k0; exact DataW.trod_lt m _ _ _ hm
  obtain ⟨LL, hLL⟩ : ∃ LL, LL = L ++ [] := ⟨_, rfl⟩
  have inL : ∀ (i : Nat) p, L[i]? = some p → LL[i]? = some p := fun i p hi => by rw [hLL, List.getElem?_append_left (List.getElem?_eq_some_iff.1 hi).1]; exact hi
  have hLo' : ∀ p ∈ LL, (∀ m : Places, relO (CB W) m W p.2 p.1) ∧ p.1.mine = false := by
    intro p hp
    rw [hLL] at hp
    rcases List.mem_append.1 hp with hp | hp
    · exact hLo p hp
    · cases hp
  have walk := (fnTextBack_A hG ru (xs 19) hnum    (heapOf LL) (heapOf_GH LL) (hat 19 _ fun i p hi => (heapOf_get (inL i p hi)).1) ).2 (placesOf LL) W #[v0] (heap_rep hG LL hLo')
    ⟨hrel 19 _ fun i p hi => (heapOf_get (inL i p hi)).2, trivial⟩
  refine walk.mono fun e W' hh => ?_
  obtain ⟨rv, m', H', r, rfl, hfw, hr, rfl, _⟩ := hh
  have hrv : rv = .bool true := hr
  subst hrv
  have bel : Below W.heap.size W W' := hfw.rep.below
  exact ⟨_, rfl, _, _, _, [], _, [], hW', trodAll_mk1 (shut_bool Tryz.underlying4 _), trodAll_cons_mk (Below.trod laidOut (by kernel_rfl) (of_decide_eq_true (by kernel_rfl)) k0 bel lt0) trodAll_mk0, rfl, bel.frame _, fun h => by cases h⟩
theorem lifted (os : Os) (started : os.Started) (H : Type) (enc : TypeId × Value → H) :
    ReturnsInHanded {} Tryz.checked os 9 .any (fun w args => (Rows.fnTextBackSpec.pre enc Tryz.prog Tryz.f9 Rows.fnTextBackRow.domain false w args ∧ laidMetH Tryz.prog laid w) ∧ sizedMet enc Tryz.prog Tryz.f9 (OpenSpec.ofChange Rows.fnTextBackSpec) false w args)
      (Rows.fnTextBackSpec.post enc Tryz.prog Tryz.f9 false true false false) := by
  refine returnsInHanded_of_change_and (C := Tryz.checked) (X := fun w _ => laidMetH Tryz.prog laid w) (fun _ _ _ hh h => h.of_heap hh) own started (by kernel_rfl) Tryz.func9
    (ChangeSpec.witness_shaped (enc := enc) (C := Tryz.checked) (os := os) (X := fun w _ => laidMetH Tryz.prog laid w) false (World.laidAll Tryz.prog os laid) #[.agg #[.int .u8 0, .bool false, .int .i64 0, .int .i64 0, .int .i64 0, .int .i64 0, .bool false, .int .i64 0, .slice none 0 0, .slice none 0 0, .slice none 0 0, .slice none 0 0, .slice none 0 0, .slice none 0 0, .slice none 0 0, .slice none 0 0, .slice none 0 0, .slice none 0 0]] 8 (World.laidAll_os _ _ _)
      (wit_shaped os _) (by kernel_rfl) (by kernel_rfl) (by kernel_rfl) (wit_met os _)) ?_
  intro W base args ds gs before hval hW _ _ hL _
  exact contract H enc W base args ds gs before hval hW hL
theorem said : Rows.FnTextBackSaid :=
  OpenClaim.holds_of_wide 9 Tryz.f9 rfl rfl rfl rfl rfl rfl rfl ⟨rfl, rfl, rfl, rfl, rfl⟩ rfl rfl rfl rfl rfl (by kernel_rfl) Tryz.func9 (by kernel_rfl)
    (of_decide_eq_true (by kernel_rfl)) (by unfold Func.isWrapper; first | (rw [if_pos (by decide +kernel)]; kernel_rfl) | (rw [if_neg (by decide +kernel)]; exact ⟨rfl, rfl⟩))
    (fun os started H enc _ => lifted os started H enc)
theorem plain (f : FuncId) (fn : Func) (hf : Tryz.pinned.checked.prog.funcNamed "pub-hebdomad/laws.FnTextBack" = some f) (hfn : Tryz.pinned.checked.prog.funcs[f]? = some fn) :
    true = Tryz.pinned.checked.prog.looks [] ∧ ∀ (j : Nat) t, fn.params[j]? = some t → Tryz.pinned.checked.prog.wantsStandIn t = false := by
  obtain rfl : f = 9 := Option.some.inj ((show Tryz.prog.funcNamed "pub-hebdomad/laws.FnTextBack" = some 9 by kernel_rfl).symm.trans hf) |>.symm
  obtain rfl : fn = Tryz.f9 := (Option.some.inj (Tryz.func9.symm.trans hfn)).symm
  refine ⟨by kernel_rfl, fun j t ht => ?_⟩
  rw [Tryz.params9] at ht
  have hm : t ∈ [25] := by simpa using Array.mem_of_getElem? ht
  have hall : ([25].all fun u => !Tryz.prog.wantsStandIn u) = true := by kernel_rfl
  exact (show Tryz.prog.wantsStandIn t = false by simpa using List.all_eq_true.1 hall t hm)
theorem card : Rows.FnTextBackCardSaid :=
  Claim7.holds_tied_plain_at .later [] _ _ _ _ said (fun _ h => by cases h) (by kernel_rfl) (fun _ h => by cases h) fnTextBack_row_tie rfl ⟨rfl, rfl⟩ (by kernel_rfl) rfl plain (by kernel_rfl)
#print axioms card
end Go.Proofs.YtlfpjdcogkcjlaaGreatDoor.FnTextBack
