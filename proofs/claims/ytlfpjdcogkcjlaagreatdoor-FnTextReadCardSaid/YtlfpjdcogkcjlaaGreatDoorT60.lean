/- PROVED: whatever rule and order come in, laws.FnTextRead returns true and its arguments read as before (the tied card of the first form). Conditions: the listed package variables hold what the program lays; nothing else. -/
import Derived.Test.YtlfpjdcogkcjlaaGreatDoorM6
import Derived.Deep.SlicePairs
import Derived.Test.YtlfpjdcogkcjlaaGreatDoorCards
import Derived.Test.YtlfpjdcogkcjlaaGreatDoorTie
import Derived.WalkKit
import Derived.ProofKit
import Derived.OpenShut
import Derived.ChangeOld
import Derived.ChangeSame
import Derived.Below
import Derived.Carry
import Derived.SevenTiedAt
namespace Go.Proofs.YtlfpjdcogkcjlaaGreatDoor.F
open Go.ChangeShapes Go.WideShapes Go.ChangeAt Go.RowKit Go.Deep Go.Proofs.YtlfpjdcogkcjlaaGreatDoor.AL
set_option linter.unusedVariables false
set_option maxRecDepth 100000
theorem laidOut : laidOutB Tryz.prog = true := by kernel_rfl
section
variable {H : Type} {enc : TypeId × Value → H} {P : Program} {W : World}
theorem bytes_obj {t e : TypeId} {fuel : Nat} {v : Value} {y : DataW H × List MemPlace} (ht : P.underlying t = some (.slice e)) (he : P.underlying e = some (.int .u8)) (hc : P.cellsOf e = 1) (hW : 0 < W.heap.size)
    (h : DataW.trod enc P W 0 (fun _ => true) true fuel t [v] = some y) :
    ∃ (x : Nat → AV) (pl : Nat × Nat) (ob : AObj) (l : List Nat), Obj1 W v x pl ob ∧ (∀ (o : Nat) (H : Heap), H[o]? = some ob → BytesAt H (x o) l) ∧ ∀ n ∈ l, n ≤ 255 := by
  rcases open_ints ht he hc h with ⟨hcs, _⟩ | ⟨a, len, cap, zs, hcs, _, hl, hm, hz, _, hcell, hw⟩
  · simp only [List.cons.injEq, and_true] at hcs
    obtain ⟨x, pl, ob, h1, h2⟩ := inSl_obj (W := W) (v := v) (n := 0) (st := 1) (cell := fun _ => .bool false) (by omega) (.inl ⟨hcs, rfl⟩) hW
    exact ⟨x, pl, ob, [], h1, fun o H ho => (h2 o H ho).congr (fun i hi => absurd hi (by omega)), fun n hn => by cases hn⟩
  · simp only [List.cons.injEq, and_true] at hcs
    simp only [if_true] at hz
    obtain ⟨x, pl, ob, h1, h2⟩ := inSl_obj (W := W) (v := v) (n := len) (st := 1) (cell := fun i => .int .u8 (zs.getD i 0)) (by omega) (.inr ⟨a, cap, hcs, hl, hm, fun i hi => hcell i (by omega)⟩) hW
    have hlen : ((zs.take len).map Int.toNat).length = len := by rw [List.length_map, List.length_take]; omega
    refine ⟨x, pl, ob, (zs.take len).map Int.toNat, h1, fun o H ho => ?_, fun n hn => ?_⟩
    · unfold BytesAt
      rw [hlen]
      refine (h2 o H ho).congr fun i hi => ?_
      have hi1 : i < len := by omega
      have hi2 : i < zs.length := by omega
      have e1 : zs.getD i 0 = zs[i] := by rw [List.getD_eq_getElem?_getD, List.getElem?_eq_getElem hi2]; rfl
      have e2 : ((zs.take len).map Int.toNat).getD i 0 = zs[i].toNat := by
        rw [List.getD_eq_getElem?_getD, List.getElem?_map, List.getElem?_take_of_lt hi1, List.getElem?_eq_getElem hi2]; rfl
      have := wf_range8 (hw zs[i] (List.getElem_mem hi2))
      show AV.val (.int .u8 (zs.getD i 0)) = AV.val (.int .u8 (((((zs.take len).map Int.toNat).getD i 0 : Nat)) : Int))
      rw [e1, e2, show ((zs[i].toNat : Nat) : Int) = zs[i] by omega]
    · obtain ⟨z, hz1, rfl⟩ := List.mem_map.1 hn
      have := wf_range8 (hw z (List.mem_of_mem_take hz1))
      omega
end
end Go.Proofs.YtlfpjdcogkcjlaaGreatDoor.F
namespace Go.Proofs.YtlfpjdcogkcjlaaGreatDoor.FnTextRead
open Go.ChangeShapes Go.WideShapes Go.ChangeAt Go.RowKit Go.Proofs.YtlfpjdcogkcjlaaGreatDoor.AL Go.Proofs.YtlfpjdcogkcjlaaGreatDoor.F
set_option linter.unusedVariables false
set_option maxRecDepth 100000
/-- What the walk gives, for every argument and every world that holds the variables. -/
theorem contract (H : Type) (enc : TypeId × Value → H) (W : World) (base : Nat) (args : Array Value) (ds gs : List (DataW H)) (before : List MemPlace)
    (hval : ∀ (j : Nat) t v, Tryz.f6.params[j]? = some t → args[j]? = some v → Value.okWide Tryz.prog W .any base t v)
    (hW : DataW.Whole enc Tryz.prog Tryz.f6.params.toList Rows.fnTextReadSpec.vars false W args.toList ds gs before) (hL : laidMetH Tryz.prog laid W) :
    Calls Tryz.prog 6 args W fun e W' => ∃ v, e = .returned v ∧ Rows.fnTextReadSpec.post enc Tryz.prog Tryz.f6 false true false false W args v W' := by
  have hW' := hW
  obtain ⟨p, q, hA0, hV, rfl, hfz, hnd⟩ := hW
  have hA : DataW.TrodAll enc Tryz.prog W 0 (fun _ => true) true Tryz.f6.params.toList args.toList ds p := hA0
  rw [Tryz.params6] at hA hval
  obtain ⟨v0, vs0, d0, ds0, p0, q0, hargs, rfl, rfl, h0, r0⟩ := trodAll_cons hA
  obtain ⟨v1, vs1, d1, ds1, p1, q1, rfl, rfl, rfl, h1, r1⟩ := trodAll_cons r0
  obtain ⟨rfl, rfl, rfl⟩ := trodAll_nil r1
  obtain rfl : args = #[v0, v1] := by cases args; simp_all
  obtain ⟨rfl, rfl⟩ := trodVars_none hV
  have hG := glob_of hL
  have hpos : 0 < W.heap.size := by
    obtain ⟨arr, e, fr, hb, _⟩ := cell_block hG.mo.1
    have := (Array.getElem?_eq_some_iff.1 hb).1
    omega
  obtain ⟨ru, xs, L, hnum, hll, hLo, hat, hrel⟩ := rule_obj hpos (hval 0 25 v0 rfl rfl) h0
  clear hA0
  have k0 := h0
  have lt0 : ∀ x ∈ p0, x.block < W.heap.size := by obtain ⟨m, hm⟩ := k0; exact DataW.trod_lt m _ _ _ hm
  have k1 := h1
  have lt1 : ∀ x ∈ p1, x.block < W.heap.size := by obtain ⟨m, hm⟩ := k1; exact DataW.trod_lt m _ _ _ hm
  obtain ⟨f1, t1⟩ := h1
  have c1 : v1.cells.toList = [v1] := by obtain ⟨a, l, c, rfl⟩ := okWide_slice Tryz.underlying38 (hval 1 38 v1 rfl rfl); rfl
  rw [c1] at t1
  obtain ⟨x1, pl1, ob1, l1, a1, s1, r1'⟩ := bytes_obj Tryz.underlying38 Tryz.underlying5 (by kernel_rfl) hpos t1
  obtain ⟨LL, hLL⟩ : ∃ LL, LL = L ++ [(ob1, pl1)] := ⟨_, rfl⟩
  have inL : ∀ (i : Nat) p, L[i]? = some p → LL[i]? = some p := fun i p hi => by rw [hLL, List.getElem?_append_left (List.getElem?_eq_some_iff.1 hi).1]; exact hi
  have hLo' : ∀ p ∈ LL, (∀ m : Places, relO (CB W) m W p.2 p.1) ∧ p.1.mine = false := by
    intro p hp
    rw [hLL] at hp
    rcases List.mem_append.1 hp with hp | hp
    · exact hLo p hp
    · simp only [List.mem_cons, List.mem_nil_iff, or_false] at hp
      subst hp
      exact ⟨a1.relO, a1.mine⟩
  have g1 := heapOf_get (L := LL) (k := 10) (p := (ob1, pl1)) (by rw [hLL, List.getElem?_append_right (by omega), hll]; rfl)
  have walk := (fnTextRead_A hG ru (xs 19) hnum l1 r1' (x1 29) (heapOf LL) (heapOf_GH LL) (hat 19 _ fun i p hi => (heapOf_get (inL i p hi)).1) (s1 _ _ g1.1)).2 (placesOf LL) W #[v0, v1] (heap_rep hG LL hLo')
    ⟨hrel 19 _ fun i p hi => (heapOf_get (inL i p hi)).2, a1.rel _ _ g1.2, trivial⟩
  refine walk.mono fun e W' hh => ?_
  obtain ⟨rv, m', H', r, rfl, hfw, hr, rfl, _⟩ := hh
  have hrv : rv = .bool true := hr
  subst hrv
  have bel : Below W.heap.size W W' := hfw.rep.below
  exact ⟨_, rfl, _, _, _, [], _, [], hW', trodAll_mk1 (shut_bool Tryz.underlying4 _), trodAll_cons_mk (Below.trod laidOut (by kernel_rfl) (of_decide_eq_true (by kernel_rfl)) k0 bel lt0) (trodAll_cons_mk (Below.trod laidOut (by kernel_rfl) (of_decide_eq_true (by kernel_rfl)) k1 bel lt1) trodAll_mk0), rfl, bel.frame _, fun h => by cases h⟩
theorem lifted (os : Os) (started : os.Started) (H : Type) (enc : TypeId × Value → H) :
    ReturnsInHanded {} Tryz.checked os 6 .any (fun w args => (Rows.fnTextReadSpec.pre enc Tryz.prog Tryz.f6 Rows.fnTextReadRow.domain false w args ∧ laidMetH Tryz.prog laid w) ∧ sizedMet enc Tryz.prog Tryz.f6 (OpenSpec.ofChange Rows.fnTextReadSpec) false w args)
      (Rows.fnTextReadSpec.post enc Tryz.prog Tryz.f6 false true false false) := by
  refine returnsInHanded_of_change_and (C := Tryz.checked) (X := fun w _ => laidMetH Tryz.prog laid w) (fun _ _ _ hh h => h.of_heap hh) own started (by kernel_rfl) Tryz.func6
    (ChangeSpec.witness_shaped (enc := enc) (C := Tryz.checked) (os := os) (X := fun w _ => laidMetH Tryz.prog laid w) false (World.laidAll Tryz.prog os laid) #[.agg #[.int .u8 0, .bool false, .int .i64 0, .int .i64 0, .int .i64 0, .int .i64 0, .bool false, .int .i64 0, .slice none 0 0, .slice none 0 0, .slice none 0 0, .slice none 0 0, .slice none 0 0, .slice none 0 0, .slice none 0 0, .slice none 0 0, .slice none 0 0, .slice none 0 0], .slice none 0 0] 8 (World.laidAll_os _ _ _)
      (wit_shaped os _) (by kernel_rfl) (by kernel_rfl) (by kernel_rfl) (wit_met os _)) ?_
  intro W base args ds gs before hval hW _ _ hL _
  exact contract H enc W base args ds gs before hval hW hL
theorem said : Rows.FnTextReadSaid :=
  OpenClaim.holds_of_wide 6 Tryz.f6 rfl rfl rfl rfl rfl rfl rfl ⟨rfl, rfl, rfl, rfl, rfl⟩ rfl rfl rfl rfl rfl (by kernel_rfl) Tryz.func6 (by kernel_rfl)
    (of_decide_eq_true (by kernel_rfl)) (by unfold Func.isWrapper; first | (rw [if_pos (by decide +kernel)]; kernel_rfl) | (rw [if_neg (by decide +kernel)]; exact ⟨rfl, rfl⟩))
    (fun os started H enc _ => lifted os started H enc)
theorem plain (f : FuncId) (fn : Func) (hf : Tryz.pinned.checked.prog.funcNamed "pub-hebdomad/laws.FnTextRead" = some f) (hfn : Tryz.pinned.checked.prog.funcs[f]? = some fn) :
    true = Tryz.pinned.checked.prog.looks [] ∧ ∀ (j : Nat) t, fn.params[j]? = some t → Tryz.pinned.checked.prog.wantsStandIn t = false := by
  obtain rfl : f = 6 := Option.some.inj ((show Tryz.prog.funcNamed "pub-hebdomad/laws.FnTextRead" = some 6 by kernel_rfl).symm.trans hf) |>.symm
  obtain rfl : fn = Tryz.f6 := (Option.some.inj (Tryz.func6.symm.trans hfn)).symm
  refine ⟨by kernel_rfl, fun j t ht => ?_⟩
  rw [Tryz.params6] at ht
  have hm : t ∈ [25, 38] := by simpa using Array.mem_of_getElem? ht
  have hall : ([25, 38].all fun u => !Tryz.prog.wantsStandIn u) = true := by kernel_rfl
  exact (show Tryz.prog.wantsStandIn t = false by simpa using List.all_eq_true.1 hall t hm)
theorem card : Rows.FnTextReadCardSaid :=
  Claim7.holds_tied_plain_at .later [] _ _ _ _ said (fun _ h => by cases h) (by kernel_rfl) (fun _ h => by cases h) fnTextRead_row_tie rfl ⟨rfl, rfl⟩ (by kernel_rfl) rfl plain (by kernel_rfl)
#print axioms card
end Go.Proofs.YtlfpjdcogkcjlaaGreatDoor.FnTextRead
