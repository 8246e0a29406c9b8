import Derived.Test.Qxb6629134aDoorIndep
import Derived.ProofKit
import Derived.LaidMore
import Derived.LaidLaws
import Derived.LaidHandle
import Derived.OpenShut
import Derived.SliceStrings
import Derived.Stop.Joined
import Derived.Stop.LaidErr
import Derived.MakeChecks
namespace Go.Proofs.Qxb6629134aDoor
open Go.ChangeShapes Go.WideShapes Go.ChangeAt Go.RowKit

theorem own : ownKnob Tryd.prog.godebug = none := by kernel_rfl
theorem laidOut : laidOutB Tryd.prog = true := by kernel_rfl

/-- the listed variables, as both rows list them -/
def laidL : List (String × DataW Unit) := Rows.fnReadPageMatchesModelRow.laid
theorem laid_same : Rows.fnReadPageParametersIndependentRow.laid = laidL := rfl

/-- The door's own heap meets the condition. -/
theorem door_met (os : Os) (args : Array Value) : laidMetH Tryd.prog laidL ((World.doorLaid Tryd.prog 62 os).forCall (fun _ _ => 0) ⟨#[], args, []⟩).memory :=
  laidMetH_of_parts3 (fuel := 8) (laidMet_of_run' 8 (by kernel_rfl) (by kernel_rfl)) (by kernel_rfl) (by kernel_rfl)

/-! ### from the condition to the two error variables' cells -/
def ifaceName : DataW Unit → String
  | .iface n _ => n
  | _ => default
def nmE : String := ifaceName Rows.laid_strconv_ErrSyntax
theorem gES : Tryd.prog.globalNamed "strconv.ErrSyntax" = some 0 := by kernel_rfl
theorem gER : Tryd.prog.globalNamed "strconv.ErrRange" = some 1 := by kernel_rfl
theorem tES : (Tryd.prog.globals[0]?).map (·.type) = some 36 := by kernel_rfl
theorem tER : (Tryd.prog.globals[1]?).map (·.type) = some 36 := by kernel_rfl
theorem cells69 : Tryd.prog.cellsOf 69 = 1 := by kernel_rfl
theorem cells9 : Tryd.prog.cellsOf 9 = 1 := by kernel_rfl
theorem row67 (u : TypeId) (h : Tryd.prog.typeName? 3 u = some nmE) : u = 67 :=
  typeName_ptr_named (nm := "errors.errorString") (by kernel_rfl) (by kernel_rfl) (by decide) u (h.trans (congrArg some (by decide)))

theorem errs_of_laid {W : World} (h : laidMetH Tryd.prog laidL W) : ∃ (te tr : TypeId) (pe pr : Value), Errs W te tr pe pr := by
  rw [MakeChecks.laidMetH_plain _ _ _ (by kernel_rfl)] at h
  have h3 := h.tail.tail.tail
  obtain ⟨a1, s1, hv1, _⟩ := laid_sentinel (nm := nmE) h3 gER tER Tryd.underlying36 row67 Tryd.underlying67 Tryd.underlying69 rfl rfl Tryd.underlying9 cells69 cells9
  obtain ⟨a0, s0, hv0, _⟩ := laid_sentinel (nm := nmE) h3.tail gES tES Tryd.underlying36 row67 Tryd.underlying67 Tryd.underlying69 rfl rfl Tryd.underlying9 cells69 cells9
  have c0 : W.cell? ⟨0, 0, none⟩ = some (.iface 67 (.pointer (some a0))) := by have h0 := World.var?_cell gES hv0 0; simpa using h0
  have c1 : W.cell? ⟨1, 0, none⟩ = some (.iface 67 (.pointer (some a1))) := by have h0 := World.var?_cell gER hv1 0; simpa using h0
  have hlt := World.block_lt_of_cell? W _ c1
  exact ⟨_, _, _, _, c0, c1, hlt⟩

/-! ### a slice of strings that came in -/
theorem row_rds {H : Type} {enc : TypeId × Value → H} {W : World} {fuel : Nat} {ao : Option Addr} {len cap : Nat} {x : DataW H × List MemPlace}
    (h : DataW.trod enc Tryd.prog W 0 (fun _ => true) true fuel 22 (Value.cells (.slice ao len cap)).toList = some x) :
    ∃ l : List ByteArray, l.length = len ∧ RdS W ao l ∧ len ≤ maxLen := by
  rcases open_strings Tryd.underlying22 Tryd.underlying9 cells9 h with ⟨hcs, _⟩ | ⟨a, len', cap', ss, hcs, _, hl, hm, hz, _, hc, _⟩
  · simp [Value.cells] at hcs
    obtain ⟨rfl, rfl, rfl⟩ := hcs
    exact ⟨[], rfl, .inl rfl, Nat.zero_le _⟩
  · simp [Value.cells] at hcs
    obtain ⟨rfl, rfl, rfl⟩ := hcs
    rw [if_pos rfl] at hz
    refine ⟨ss.take len, by rw [List.length_take]; omega, ?_, Nat.le_trans hl hm⟩
    by_cases h0 : len = 0
    · subst h0
      exact .inl rfl
    · have hp : 0 < ss.length := by omega
      obtain ⟨b, off, spot⟩ := a
      have hspot : spot = none := by simpa [Addr.add] using World.cell?_spot (hc 0 hp)
      subst hspot
      have hc2 : ∀ j, j < ss.length → W.cell? ⟨b, off + j, none⟩ = some (.string (ss.getD j ByteArray.empty)) := fun j hj => by rw [← Go.WideShapes.add_plain]; exact hc j hj
      refine .inr ⟨b, off, rfl, World.block_lt_of_cell? W _ (hc2 0 hp), fun k hk => ?_⟩
      have hk2 : k < ss.length := by rw [List.length_take] at hk; omega
      rw [hc2 k hk2, List.getElem_take, List.getD_eq_getElem?_getD, List.getElem?_eq_getElem hk2]
      rfl

end Go.Proofs.Qxb6629134aDoor
