/-
  Every operation but calls of functions: what it gives over an abstract state, and that the machine's does that.
-/
import Derived.Test.YtlfpjdcogkcjlaaGreatDoorAL6
namespace Go.Proofs.YtlfpjdcogkcjlaaGreatDoor.AL
open Go.RowKit
set_option linter.unusedVariables false
set_option linter.unusedSimpArgs false
variable {P : Program} {C : Base}

/-- '==' with nil -/
def nilCmp (P : Program) (t : TypeId) (x y : AV) : Option Bool :=
  match P.underlying t, x, y with
  | some (.interface _), .ifc .., .val .nilIface => some false
  | some (.interface _), .val .nilIface, .ifc .. => some false
  | some (.slice _), .sl .., .val (.slice none 0 0) => some false
  | some (.pointer _), .ptr .., .val (.pointer none) => some false
  | some (.func ..), .fn .., .val .nilFunc => some false
  | _, _, _ => none
theorem nilCmp_run {t : TypeId} {x y : AV} {b : Bool} (h : nilCmp P t x y = some b) {m : Places} {w : World} {u v : Value} (hx : rel m w x u) (hy : rel m w y v) :
    (Op.equal t u v).run P w = .ok b w ∧ (∀ op xo yo, (eqGuard op t xo yo u v).run P w = .ok () w) ∧ (binOp .eql t u v = do pure (.bool (← Op.equal t u v))) ∧ (binOp .neq t u v = do pure (.bool (!(← Op.equal t u v)))) := by
  have key : ∀ {u v : Value}, (∀ d, (Op.equalIn (d + 1) t u v).run P w = .ok false w) → (Op.equal t u v).run P w = .ok false w := fun h => h 9999
  unfold nilCmp at h
  split at h
  · rename_i ms t' c hu
    obtain ⟨z, rfl, _⟩ := hx
    obtain rfl : v = .nilIface := hy
    obtain rfl := Option.some.inj h
    exact ⟨key fun d => by rw [Op.equalIn, Sem.run_bind, run_underlying hu]; rfl, fun op xo yo => by unfold eqGuard; cases op <;> rfl, rfl, rfl⟩
  · rename_i ms t' c hu
    obtain ⟨z, rfl, _⟩ := hy
    obtain rfl : u = .nilIface := hx
    obtain rfl := Option.some.inj h
    exact ⟨key fun d => by rw [Op.equalIn, Sem.run_bind, run_underlying hu]; rfl, fun op xo yo => by unfold eqGuard; cases op <;> rfl, rfl, rfl⟩
  · rename_i e own o off len st hu
    obtain ⟨bb, a, cap, _, rfl, _⟩ := hx
    obtain rfl : v = .slice none 0 0 := hy
    obtain rfl := Option.some.inj h
    exact ⟨key fun d => by rw [Op.equalIn, Sem.run_bind, run_underlying hu]; rfl, fun op xo yo => by unfold eqGuard; cases op <;> rfl, rfl, rfl⟩
  · rename_i e o off hu
    obtain ⟨bb, _, rfl⟩ := hx
    obtain rfl : v = .pointer none := hy
    obtain rfl := Option.some.inj h
    exact ⟨key fun d => by rw [Op.equalIn, Sem.run_bind, run_underlying hu]; rfl, fun op xo yo => by unfold eqGuard; cases op <;> rfl, rfl, rfl⟩
  · rename_i _ _ _ f fi ca hu
    obtain ⟨vs, us, rfl, _⟩ := hx
    obtain rfl : v = .nilFunc := hy
    obtain rfl := Option.some.inj h
    exact ⟨key fun d => by rw [Op.equalIn, Sem.run_bind, run_underlying hu]; rfl, fun op xo yo => by unfold eqGuard; cases op <;> rfl, rfl, rfl⟩
  · cases h

def binA (P : Program) (op : BinOp) (t : TypeId) (xo yo : Operand) (x y : AV) : Option AV :=
  match plain x, plain y with
  | some a, some b => (pureRun P (do eqGuard op t xo yo a b; binOp op t a b)).map .val
  | _, _ => match op, nilCmp P t x y with
    | .eql, some b => some (.val (.bool b))
    | .neq, some b => some (.val (.bool !b))
    | _, _ => none
theorem binA_run {op : BinOp} {t : TypeId} {xo yo : Operand} {x y c : AV} (h : binA P op t xo yo x y = some c) {m : Places} {w : World} {u v : Value} (hx : rel m w x u) (hy : rel m w y v) :
    ∃ r, (do eqGuard op t xo yo u v; binOp op t u v : Sem Value).run P w = .ok r w ∧ rel m w c r := by
  unfold binA at h
  split at h
  · rename_i a b ha hb
    obtain rfl := plain_rel ha hx
    obtain rfl := plain_rel hb hy
    obtain ⟨r, h1, rfl⟩ := Option.map_eq_some_iff.1 h
    exact ⟨r, pureRun_run h1 w, rfl⟩
  · split at h
    · rename_i b hn
      obtain rfl := Option.some.inj h
      obtain ⟨h1, h2, h3, _⟩ := nilCmp_run hn hx hy
      exact ⟨.bool b, by rw [Sem.run_bind, h2, Result.andThen_ok, h3, Sem.run_bind, h1]; rfl, rfl⟩
    · rename_i b hn
      obtain rfl := Option.some.inj h
      obtain ⟨h1, h2, _, h3⟩ := nilCmp_run hn hx hy
      exact ⟨.bool (!b), by rw [Sem.run_bind, h2, Result.andThen_ok, h3, Sem.run_bind, h1]; rfl, rfl⟩
    · cases h

def lenA (P : Program) (t : TypeId) (x : AV) : Option AV :=
  match P.underlying t, x with
  | some .string, .val (.string s) => some (.val (.int .i64 s.size))
  | some (.slice _), .val (.slice none 0 0) => some (.val (.int .i64 0))
  | some (.slice _), .sl _ _ _ n _ => some (.val (.int .i64 n))
  | some (.array n _), _ => some (.val (.int .i64 n))
  | _, _ => none
theorem lenA_run {t ty : TypeId} {x c : AV} (h : lenA P t x = some c) {m : Places} {w : World} {u : Value} (hx : rel m w x u) : ∃ r, (Builtin.len_ #[t] ty #[u]).run P w = .ok r w ∧ rel m w c r := by
  unfold lenA at h
  split at h
  · rename_i s hu
    obtain rfl : u = .string s := hx
    obtain rfl := Option.some.inj h
    exact ⟨_, by simp [Builtin.len_, run_underlying hu, goInt], rfl⟩
  · rename_i e hu
    obtain rfl : u = .slice none 0 0 := hx
    obtain rfl := Option.some.inj h
    exact ⟨_, by simp [Builtin.len_, run_underlying hu, goInt], rfl⟩
  · rename_i e own o off n st hu
    obtain ⟨b, a, cap, _, rfl, _⟩ := hx
    obtain rfl := Option.some.inj h
    exact ⟨_, by simp [Builtin.len_, run_underlying hu, goInt], rfl⟩
  · rename_i n e hu
    obtain rfl := Option.some.inj h
    exact ⟨_, by simp [Builtin.len_, run_underlying hu, goInt], rfl⟩
  · cases h

def indexA (P : Program) (t : TypeId) (x i : AV) : Option AV :=
  match x, i with
  | .val (.string s), .val (.int k n) => match P.underlying t with
    | some .string => if 0 ≤ n ∧ n < s.size then some (.val (.int .u8 ((s.data.toList.getD n.toNat 0).toNat : Int))) else none
    | _ => none
  | .agg l, .val (.int k n) => match P.underlying t with
    | some (.array len e) => match kd P e with
      | some .one => if 0 ≤ n ∧ n < len then l[n.toNat]? else none
      | _ => none
    | _ => none
  | _, _ => none
theorem indexA_run {t : TypeId} {x i c : AV} (h : indexA P t x i = some c) {m : Places} {w : World} {u v : Value} (hx : rel m w x u) (hi : rel m w i v) : ∃ r, (Instr.index t u v).run P w = .ok r w ∧ rel m w c r := by
  unfold indexA at h
  split at h
  · rename_i s k n
    obtain rfl : u = .string s := hx
    obtain rfl : v = .int k n := hi
    split at h
    · rename_i hu
      split at h
      · rename_i hc
        obtain rfl := Option.some.inj h
        obtain ⟨j, rfl⟩ := Int.eq_ofNat_of_zero_le hc.1
        have hj : j < s.size := by omega
        refine ⟨_, ?_, rfl⟩
        have hb : s[(j : Int).toNat]? = some s[j] := by simp [hj]
        have hd : s.data.toList.getD (j : Int).toNat 0 = s[j] := by
          have : j < s.data.toList.length := hj
          simp only [Int.toNat_natCast, List.getD_eq_getElem?_getD, List.getElem?_eq_getElem this, Option.getD_some]
          rfl
        unfold Instr.index
        simp only [Sem.run_bind, run_asIntOf, run_underlying hu, Result.andThen_ok]
        rw [if_pos (by omega), hb, hd]
        rfl
      · cases h
    · cases h
  · rename_i l k n
    obtain ⟨vs, rfl, hl⟩ := hx
    obtain rfl : v = .int k n := hi
    split at h
    · rename_i len e hu
      split at h
      · rename_i hk
        split at h
        · rename_i hc
          obtain ⟨r, h1, h2⟩ := rels_get hl _ _ h
          obtain ⟨d, inf, hu2, hi2, hs1, hs, ha⟩ := kd_one hk
          refine ⟨r, ?_, h2⟩
          unfold Instr.index
          simp only [Sem.run_bind, run_asIntOf, run_underlying hu, Result.andThen_ok]
          rw [if_pos (by simpa using hc)]
          rw [Array.getElem?_toList] at h1
          simp [run_sizeOf hi2, hs1, part, run_isAgg_one hu2 hs ha, h1]
        · cases h
      · cases h
    · cases h
  · cases h

def extractA (x : AV) (i : Nat) : Option AV :=
  match x with
  | .tup l => l[i]?
  | .val (.tuple vs) => vs[i]?.map .val
  | _ => none
theorem extractA_run {x c : AV} {i : Nat} (h : extractA x i = some c) {m : Places} {w : World} {u : Value} (hx : rel m w x u) : ∃ r, (Instr.extract u i).run P w = .ok r w ∧ rel m w c r := by
  unfold extractA at h
  split at h
  · obtain ⟨vs, rfl, hl⟩ := hx
    obtain ⟨r, h1, h2⟩ := rels_get hl _ _ h
    rw [Array.getElem?_toList] at h1
    exact ⟨r, by simp [Instr.extract, h1], h2⟩
  · rename_i vs
    obtain rfl : u = .tuple vs := hx
    obtain ⟨r, h1, rfl⟩ := Option.map_eq_some_iff.1 h
    exact ⟨r, by simp [Instr.extract, h1], rfl⟩
  · cases h

end Go.Proofs.YtlfpjdcogkcjlaaGreatDoor.AL
