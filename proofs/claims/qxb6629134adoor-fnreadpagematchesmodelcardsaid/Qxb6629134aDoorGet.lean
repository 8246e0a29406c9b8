import Derived.Test.Qxb6629134aDoorRows
import Derived.Test.Qxb6629134aDoorShelf
import Derived.WalkKit
import Derived.WalkSpells
import Derived.WalkLawsBesides
import Derived.Maps.Own
import Derived.Maps.OwnOps
import Derived.Maps.OwnSet
import Derived.Maps.Views
import Derived.Deep.QuietTactic
import Derived.BigQuiet
namespace Go.Proofs.Qxb6629134aDoor
open Go.RowKit Go.Maps

theorem hid {p : Prop} (h : p) : Hid p := h

abbrev KN : ByteArray := ⟨#[112, 97, 103, 101, 91, 110, 117, 109, 98, 101, 114, 93]⟩
abbrev KS : ByteArray := ⟨#[112, 97, 103, 101, 91, 115, 105, 122, 101, 93]⟩

/-- the first string of a slice of strings; the empty string where there is none -/
def FirstIs (w : World) (v : Value) (s : ByteArray) : Prop :=
  ∃ ao n c, v = .slice ao n c ∧ ((n = 0 ∧ s = ByteArray.empty) ∨ (0 < n ∧ ∃ b off, ao = some ⟨b, off, none⟩ ∧ b < w.heap.size ∧ w.cell? ⟨b, off, none⟩ = some (.string s)))

theorem FirstIs.below {w w' : World} {v : Value} {s : ByteArray} (h : FirstIs w v s) (hb : Below w.heap.size w w') : FirstIs w' v s := by
  obtain ⟨ao, n, c, rfl, h | ⟨h0, b, off, rfl, hlt, hc⟩⟩ := h
  · exact ⟨ao, n, c, rfl, .inl h⟩
  · exact ⟨_, n, c, rfl, .inr ⟨h0, b, off, rfl, Nat.lt_of_lt_of_le hlt hb.size, (hb.cell (p := ⟨b, off, none⟩) hlt).trans hc⟩⟩

set_option maxHeartbeats 400000 in
theorem get_any (m : Value) (key : ByteArray) (v : Value) (s : ByteArray) (w : World) (hv : (Instr.lookup 43 m (.string key) false).run Tryd.prog w = .ok v w) (hf : FirstIs w v s) :
    Calls Tryd.prog 14 #[m, .string key] w fun e w' => e = .returned (.string s) ∧ w' = w := by
  obtain ⟨ao, n, c, rfl, ⟨rfl, rfl⟩ | ⟨h0, b, off, rfl, hlt, hc⟩⟩ := hf
  · go_enter Tryd.func14, Tryd.ntmps14
    go_wp2
    go_ret
    exact ⟨rfl, rfl⟩
  · have hz : ((n : Int) == 0) = false := by rw [beq_eq_false_iff_ne]; omega
    go_enter Tryd.func14, Tryd.ntmps14
    go_wp2
    go_ret
    exact ⟨rfl, rfl⟩

end Go.Proofs.Qxb6629134aDoor
