/-
  Contracts of the library in the logic's terms.
-/
import Derived.Test.YtlfpjdcogkcjlaaGreatDoorAL14
import Derived.Test.YtlfpjdcogkcjlaaGreatDoorALG
import Derived.Test.YtlfpjdcogkcjlaaGreatDoorBase
import Derived.Lib.ItoaLen
namespace Go.Proofs.YtlfpjdcogkcjlaaGreatDoor.AL
open Go.RowKit
set_option linter.unusedVariables false
set_option linter.unusedSimpArgs false
variable {P : Program} {C : Base}

theorem szs_below {w w' : World} (h : Below w.heap.size w w') : Szs w w' := fun b arr e fr hb => by
  have hlt : b < w.heap.size := (Array.getElem?_eq_some_iff.1 hb).1
  exact ⟨arr, by rw [h.block b hlt]; exact hb, rfl⟩
theorem RepH.belowW {m : Places} {w w' : World} {H : Heap} (h : RepH C m w H) (hb : Below w.heap.size w w') : RepH C m w' H where
  below := h.below.trans (hb.mono h.size)
  size := Nat.le_trans h.size hb.size
  len := h.len
  glob := h.glob
  obj := fun o x b hx hm => by
    cases x with
    | gone => trivial
    | _ => exact relO_far (h.obj o _ b hx hm) (szs_below hb) (hb.block _ (h.mine_lt hx hm (by simp)))
  apart := h.apart
theorem vals_eq {m : Places} {w : World} {args : List Value} {vals : Array Value} (h : rels m w (args.map .val) vals.toList) : vals = args.toArray := by
  have hp : ∀ l : List Value, plains (l.map .val) = some l := by
    intro l
    induction l with
    | nil => rfl
    | cons v l ih => simp [plains, plain, ih]
  have := plains_rel (hp args) h
  rw [← this]
/-- A library's function that answers plainly. -/
theorem A_lib {f : FuncId} {args : List Value} {rv : Value} {H : Heap} (hc : Callable P f) (h : ∀ w, Below C.B C.w0 w → C.B ≤ w.heap.size → Calls P f args.toArray w fun e w' => e = .returned rv ∧ Below w.heap.size w w') : ACalls P C f (args.map .val) H fun r H' => r = .val rv ∧ H' = H :=
  ⟨hc, fun m w vals h1 h2 => by
    rw [vals_eq h2]
    refine (h w h1.below h1.size).mono ?_
    rintro e w' ⟨rfl, hb⟩
    exact ⟨rv, m, H, .val rv, rfl, ⟨List.prefix_refl m, szs_below hb, h1.belowW hb⟩, rfl, rfl, rfl⟩⟩
theorem callable_of {f : FuncId} {fn : Func} (hf : P.funcs[f]? = some fn) (hn : (fn.name == "runtime.NumGoroutine") = false) (hb : fn.body.isNone = false) : Callable P f := ⟨fn, hf, hn, hb⟩

/-- Where a claim's call begins: the world, its variables laid as the program lays them. -/
abbrev CB (w0 : World) : Base := ⟨w0.heap.size, w0, 19⟩
end Go.Proofs.YtlfpjdcogkcjlaaGreatDoor.AL
namespace Go.Proofs.YtlfpjdcogkcjlaaGreatDoor.F
open Go.RowKit Go.Proofs.YtlfpjdcogkcjlaaGreatDoor.AL Go.Proofs.YtlfpjdcogkcjlaaGreatDoor.B
set_option linter.unusedVariables false
theorem itoa_A {w0 : World} (hG : Glob w0) (n : Int) (h0 : -9223372036854775808 ≤ n) (h1 : n ≤ 9223372036854775807) (H : Heap) : ACalls Tryz.prog (CB w0) 35 [vI n] H fun r H' => r = vS (Lib.itoa n) ∧ H' = H :=
  A_lib (args := [.int .i64 n]) (callable_of Tryz.func35 (by kernel_rfl) (by kernel_rfl)) fun w hb _ => itoa_calls n h0 h1 w (hG.below hb)
end Go.Proofs.YtlfpjdcogkcjlaaGreatDoor.F
