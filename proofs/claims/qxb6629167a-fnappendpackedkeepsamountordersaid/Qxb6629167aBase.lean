import Derived.Test.Qxb6629167aRows
import Derived.WalkKit
import Derived.WalkSpells
import Derived.WalkLawsBesides
import Derived.ArgAppend
import Derived.Laws.OwnMore
namespace Go.Proofs.Qxb6629167a.Pw
open Go.RowKit

theorem hid {p : Prop} (h : p) : Hid p := h

theorem info5 : (Try.prog.info? 5).map (fun i => (i.zero, i.size, i.bytes)) = some (some (.int .u8 0), 1, 1) := by kernel_rfl

/-- 'the slice at ao reads as the bytes l' -/
def Rd (w : World) (ao : Option Addr) (l : List Int) : Prop :=
  l = [] ∨ ∃ b off, ao = some ⟨b, off, none⟩ ∧ b < w.heap.size ∧ ∀ k (h : k < l.length), w.cell? ⟨b, off + k, none⟩ = some (.int .u8 l[k])

theorem Rd.nil (w : World) (ao : Option Addr) : Rd w ao [] := .inl rfl

theorem Rd.at {w : World} {ao : Option Addr} {l : List Int} (h : Rd w ao l) (h0 : 0 < l.length) : ∃ b off, ao = some ⟨b, off, none⟩ ∧ b < w.heap.size ∧ ∀ k (h : k < l.length), w.cell? ⟨b, off + k, none⟩ = some (.int .u8 l[k]) := by
  rcases h with rfl | h
  · simp at h0
  · exact h

theorem Rd.below {w w' : World} {ao : Option Addr} {l : List Int} (h : Rd w ao l) (hb : Below w.heap.size w w') : Rd w' ao l := by
  rcases h with rfl | ⟨b, off, e, hlt, hc⟩
  · exact .inl rfl
  · have hs := hb.size
    exact .inr ⟨b, off, e, by omega, fun k hk => (hb.cell (p := ⟨b, off + k, none⟩) hlt).trans (hc k hk)⟩

theorem add_at (b off k : Nat) : (⟨b, off, none⟩ : Addr).add k = ⟨b, off + k, none⟩ := by
  unfold Addr.add
  by_cases e : k = 0
  · subst e; rfl
  · rw [if_neg e]

/-- what the append's law wants of the old cells -/
theorem Rd.olds {w : World} {ao : Option Addr} {l : List Int} (h : Rd w ao l) : ∀ b, ao = some b → ∀ j u, (l.map (Value.int .u8))[j]? = some u → w.cell? (b.add j) = some u := by
  rcases h with rfl | ⟨b, off, rfl, hlt, hc⟩
  · intro b _ j u hj; simp at hj
  · intro b' hb' j u hj
    cases hb'
    rw [add_at]
    have hj' : j < l.length := by
      have := (List.getElem?_eq_some_iff.1 hj).1
      simpa using this
    rw [hc j hj']
    rw [List.getElem?_map, List.getElem?_eq_getElem hj'] at hj
    simpa using hj

/-- out of an owned row -/
theorem Rd.ofOwn {w : World} {base n : Nat} {v : Value} {l : List Int} (h : w.ownsRow base 5 1 v n (l.map (Value.int .u8))) : ∃ ao cap, v = .slice ao n cap ∧ Rd w ao l ∧ n = l.length ∧ (ao = none → l = []) ∧ n ≤ cap := by
  have hlen : n = l.length := by have := h.1; simp at this; omega
  rcases h.2 with ⟨rfl, h0⟩ | ⟨g, cap, cur, rfl, hb, hg, hnc, hcm, hcs, ht⟩
  · have : l = [] := List.eq_nil_of_length_eq_zero (by omega)
    subst this
    exact ⟨none, 0, by rw [h0], .inl rfl, by simpa using h0, fun _ => rfl, by omega⟩
  · refine ⟨_, cap, rfl, .inr ⟨g, 0, rfl, ?_, fun k hk => ?_⟩, hlen, (fun e => by cases e), hnc⟩
    · have := (Array.getElem?_eq_some_iff.1 hg).1
      exact this
    · have h1 := h.cellAt k (by omega)
      rw [Nat.zero_add, h1, List.getElem?_map, List.getElem?_eq_getElem hk]
      rfl

end Go.Proofs.Qxb6629167a.Pw
