import Derived.Test.Qxb6629167aBase
import Derived.Test.Qxb6629167aPlain
import Derived.Deep.QuietTactic
import Derived.BigQuiet
import Derived.WalkSmall
namespace Go.Proofs.Qxb6629167a.Pw
open Go.RowKit
open Go.Proofs.Qxb6629167a.Plain

set_option maxHeartbeats 400000 in
theorem equal_same (xo yo : Option Addr) (cx cy : Nat) (l : List Int) (w : World) (hx : Rd w xo l) (hy : Rd w yo l) (hll : l.length ≤ 65536) :
    Calls Try.prog 9 #[.slice xo l.length cx, .slice yo l.length cy] w fun e w' => e = .returned (.bool true) ∧ Below w.heap.size w w' := by
  go_enter Try.func9, Try.ntmps9
  go_wp2
  go_loopw [5] (fun i wr => ∃ k : Nat, k ≤ l.length ∧ i = .int .i64 (k : Int) ∧ Below w.heap.size w wr) (fun i _ => l.length - (intOf i).toNat)
  case atStart => exact ⟨0, Nat.zero_le _, rfl, Below.refl _ _⟩
  case round =>
    obtain ⟨k, hk, rfl, hbel⟩ := hrel
    by_cases hlt : k < l.length
    · obtain ⟨b, off, rfl, hblt, hc⟩ := hx.at (by omega)
      obtain ⟨b2, off2, rfl, hblt2, hc2⟩ := hy.at (by omega)
      have h1 := (hbel.cell (p := ⟨b, off + k, none⟩) hblt).trans (hc k hlt)
      have h2 := (hbel.cell (p := ⟨b2, off2 + k, none⟩) hblt2).trans (hc2 k hlt)
      clear hc hc2
      go_wp2
      go_quiet (fail)
      go_wp2
      go_roundw
      case rel => exact ⟨k + 1, by omega, by go_num, below_drewN hbel _⟩
      case measure => simp [intOf]; omega
    · go_wp2
      go_ret
      exact ⟨rfl, hbel⟩

end Go.Proofs.Qxb6629167a.Pw
