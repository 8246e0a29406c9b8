import Derived.Test.Qxb6629167aBase
import Derived.Test.Qxb6629167aPlain
namespace Go.Proofs.Qxb6629167a.Pw
open Go.RowKit
open Go.Proofs.Qxb6629167a.Plain

/-- the row holds, before place k, the bytes l -/
def Head (l : List Int) (k : Nat) (ys : List Value) : Prop := ∀ j (h : j < l.length), j < k → ys[j]? = some (.int .u8 l[j])

theorem Head.set {l : List Int} {k : Nat} {ys : List Value} (h : Head l k ys) (hy : ys.length = l.length) (hk : k < l.length) : Head l (k + 1) (ys.set k (.int .u8 l[k])) := by
  intro j hj hjk
  by_cases e : k = j
  · subst e
    rw [List.getElem?_set_self (by omega)]
  · rw [List.getElem?_set_ne e]
    exact h j hj (by omega)

theorem Head.all {l : List Int} {k : Nat} {ys : List Value} (h : Head l k ys) (hy : ys.length = l.length) (hk : l.length ≤ k) : ys = l.map (Value.int .u8) := by
  apply List.ext_getElem?
  intro j
  by_cases hj : j < l.length
  · rw [h j hj (by omega), List.getElem?_map, List.getElem?_eq_getElem hj]
    rfl
  · rw [List.getElem?_eq_none (by omega), List.getElem?_eq_none (by rw [List.length_map]; omega)]

set_option maxHeartbeats 400000 in
theorem clone_any (ao : Option Addr) (cap : Nat) (l : List Int) (w : World) (hao : ao = none → l = [] ∧ cap = 0) (hl : Rd w ao l) (hll : l.length ≤ 65536) :
    Calls Try.prog 6 #[.slice ao l.length cap] w fun e w' => ∃ ao', e = .returned (.slice ao' l.length l.length) ∧ (ao' = none → l = []) ∧ Rd w' ao' l ∧ Below w.heap.size w w' := by
  obtain ⟨i0, hi, hz0, hz1, hz2⟩ := info_parts info5
  cases ao with
  | none =>
    obtain ⟨rfl, rfl⟩ := hao rfl
    have hnil := fun (w : World) => Lib.run_eql_slice_nil (P := Try.prog) w 22 5 none 0 0 0 0 Try.underlying22
    go_enter Try.func6, Try.ntmps6
    go_wp2
    go_ret
    exact ⟨none, rfl, .inl rfl, Below.refl _ _⟩
  | some a =>
    clear hao
    have hnil := fun (w : World) => Lib.run_eql_slice_nil (P := Try.prog) w 22 5 (some a) l.length cap 0 0 Try.underlying22
    go_enter Try.func6, Try.ntmps6
    go_wp2_with (at_make; refine wpList_make_full _ rfl _ _ 22 rfl w.heap.size 5 i0 (.int .u8 0) 1 Try.underlying22 hi hz0 hz1 .i64 .i64 _ _ l.length rfl rfl rfl rfl (by rw [hz2]; omega) (by unfold maxLen; omega) (Nat.le_refl _) ?_; intro w1 hown1 hgrow1)
    go_loopw [4] (fun i wr => ∃ (k : Nat) (ys : List Value), k ≤ l.length ∧ i = .int .i64 (k : Int) ∧
        wr.ownsRow w.heap.size 5 1 (.slice (some ⟨w.heap.size, 0, none⟩) l.length l.length) l.length ys ∧ Head l k ys ∧ Below w.heap.size w wr)
      (fun i _ => l.length - (intOf i).toNat)
    case atStart => exact ⟨0, _, Nat.zero_le _, rfl, hown1, fun j _ h => by omega, (Below.refl _ _).grown hgrow1 (Nat.le_refl _) (by intro k hk; cases hk)⟩
    case round =>
      obtain ⟨k, ys, hk, rfl, hown, hhead, hbel⟩ := hrel
      have hys : ys.length = l.length := by have := hown.1; omega
      by_cases hlt : k < l.length
      · obtain ⟨b, off, hab, hblt, hc⟩ := hl.at (by omega)
        cases hab
        have hck := (hbel.cell (p := ⟨b, off + k, none⟩) hblt).trans (hc k hlt)
        have hfz := hown.frozenAt k
        have hcl := hown.cellAt k (by omega)
        have hst := hown.stored k (.int .u8 l[k])
        have HO := hid hst.1
        have hh := hhead.set hys hlt
        have hb2 := hbel.setCell (p := ⟨w.heap.size, k, none⟩) (Nat.le_refl _) (.int .u8 l[k])
        clear hst hown1 hgrow1 hown hhead hc
        go_wp2
        go_roundw
        case rel => exact ⟨k + 1, _, by omega, by go_num, HO.out, hh, hb2⟩
        case measure => simp [intOf]; omega
      · have hall := hhead.all hys (by omega)
        rw [hall] at hown
        have hrd : Rd wr (some ⟨w.heap.size, 0, none⟩) l := by
          obtain ⟨ao', cap', hv, hrd, _⟩ := Rd.ofOwn hown
          cases hv
          exact hrd
        clear hown hown1 hgrow1 hall hhead
        go_wp2
        go_ret
        exact ⟨some ⟨w.heap.size, 0, none⟩, rfl, (fun e => by cases e), hrd, hbel⟩

end Go.Proofs.Qxb6629167a.Pw
