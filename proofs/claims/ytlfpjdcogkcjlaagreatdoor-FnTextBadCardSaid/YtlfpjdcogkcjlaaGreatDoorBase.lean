/-
  The facts of the package-level variables that the texts' functions read, carried over calls; and the shelf's contracts in the forms that the walks use.
-/
import Derived.Test.YtlfpjdcogkcjlaaGreatDoorProg
import Derived.Test.YtlfpjdcogkcjlaaGreatDoorShelf
import Derived.Lib.LaidTab
import Derived.Lib.AppendIntMem
namespace Go.Proofs.YtlfpjdcogkcjlaaGreatDoor.B
open Go.RowKit
set_option linter.unusedVariables false

theorem pw_cell_below {w w' : World} (hb : Below w.heap.size w w') {a : Addr} {x : Value} (h : w.cell? a = some x) : w'.cell? a = some x :=
  (hb.cell (World.block_lt_of_cell? w a h)).trans h
/-- What the listed variables hold. -/
structure Glob (w : World) : Prop where
  ascii : Lib.TabIs Tryz.prog w "strings.asciiSpace" .u8 Lib.asciiSpaceTab
  pow : Lib.TabIs Tryz.prog w "internal/strconv.uint64pow10" .u64 Lib.pow10Tab
  errS : ∃ ev, w.cell? ⟨10, 0, none⟩ = some ev ∧ (ev = .nilIface ∨ ∃ te pe, ev = .iface te pe)
  errR : ∃ ev, w.cell? ⟨11, 0, none⟩ = some ev ∧ (ev = .nilIface ∨ ∃ te pe, ev = .iface te pe)
  mo : w.cell? ⟨0, 0, none⟩ = some (.int .i64 0) ∧ w.cell? ⟨0, 1, none⟩ = some (.int .i64 0)
  tu : w.cell? ⟨2, 0, none⟩ = some (.int .i64 1) ∧ w.cell? ⟨2, 1, none⟩ = some (.int .i64 0)
  we : w.cell? ⟨3, 0, none⟩ = some (.int .i64 2) ∧ w.cell? ⟨3, 1, none⟩ = some (.int .i64 0)
  th : w.cell? ⟨4, 0, none⟩ = some (.int .i64 3) ∧ w.cell? ⟨4, 1, none⟩ = some (.int .i64 0)
  fr : w.cell? ⟨5, 0, none⟩ = some (.int .i64 4) ∧ w.cell? ⟨5, 1, none⟩ = some (.int .i64 0)
  sa : w.cell? ⟨6, 0, none⟩ = some (.int .i64 5) ∧ w.cell? ⟨6, 1, none⟩ = some (.int .i64 0)
  su : w.cell? ⟨7, 0, none⟩ = some (.int .i64 6) ∧ w.cell? ⟨7, 1, none⟩ = some (.int .i64 0)

theorem gAscii : Tryz.prog.globalNamed "strings.asciiSpace" = some 1 := by kernel_rfl
theorem gPow : Tryz.prog.globalNamed "internal/strconv.uint64pow10" = some 9 := by kernel_rfl

theorem tab_below {n : String} {g : Nat} {k : IntKind} {zs : List Int} {w w' : World} (hg : Tryz.prog.globalNamed n = some g) (h : Lib.TabIs Tryz.prog w n k zs) (hb : Below w.heap.size w w') : Lib.TabIs Tryz.prog w' n k zs := by
  unfold Lib.TabIs World.var? at h ⊢
  rw [hg] at h ⊢
  simp only [Option.bind_some] at h ⊢
  have hlt : g < w.heap.size := by
    rcases Nat.lt_or_ge g w.heap.size with h' | h'
    · exact h'
    · rw [Array.getElem?_eq_none h'] at h; cases h
  rw [hb.block g hlt]
  exact h
theorem two_below {w w' : World} (hb : Below w.heap.size w w') {a b : Addr} {x y : Value} (h : w.cell? a = some x ∧ w.cell? b = some y) : w'.cell? a = some x ∧ w'.cell? b = some y :=
  ⟨pw_cell_below hb h.1, pw_cell_below hb h.2⟩
theorem Glob.below {w w' : World} (h : Glob w) (hb : Below w.heap.size w w') : Glob w' where
  ascii := tab_below gAscii h.ascii hb
  pow := tab_below gPow h.pow hb
  errS := by obtain ⟨ev, h1, h2⟩ := h.errS; exact ⟨ev, pw_cell_below hb h1, h2⟩
  errR := by obtain ⟨ev, h1, h2⟩ := h.errR; exact ⟨ev, pw_cell_below hb h1, h2⟩
  mo := two_below hb h.mo
  tu := two_below hb h.tu
  we := two_below hb h.we
  th := two_below hb h.th
  fr := two_below hb h.fr
  sa := two_below hb h.sa
  su := two_below hb h.su

/-- strconv.Itoa. -/
theorem itoa_calls (n : Int) (h0 : -9223372036854775808 ≤ n) (h1 : n ≤ 9223372036854775807) (w : World) (hG : Glob w) :
    Calls Tryz.prog 35 #[.int .i64 n] w fun e w' => e = .returned (.string ⟨(Lib.itoa n).toArray⟩) ∧ Below w.heap.size w w' :=
  (Tryz.strconv_Itoa n h0 h1 w hG.pow).mono fun e w' ⟨he, k, os, hw⟩ => ⟨he, hw ▸ Lib.below_grow _ w (Nat.le_refl _) k os⟩

end Go.Proofs.YtlfpjdcogkcjlaaGreatDoor.B
