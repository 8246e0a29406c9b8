/-
  THE PLAIN MATHEMATICS OF THE SEAT: digits packed two to a byte. No Go in sight.
-/
namespace Go.Proofs.Qxb6629167a.Plain

/-- the digits two to a byte, the first in the high half -/
def pairs : List Int → List Int
  | [] => []
  | [a] => [(a - 48) * 16]
  | a :: b :: r => ((a - 48) * 16 + (b - 48)) :: pairs r

def Dig (l : List Int) : Prop := ∀ c ∈ l, 48 ≤ c ∧ c ≤ 57

theorem Dig.at {l : List Int} (h : Dig l) (k : Nat) (hk : k < l.length) : 48 ≤ l[k] ∧ l[k] ≤ 57 := h _ (List.getElem_mem hk)

theorem pairs_length : ∀ l : List Int, (pairs l).length = (l.length + 1) / 2
  | [] => rfl
  | [_] => by simp [pairs]
  | a :: b :: r => by
    have := pairs_length r
    simp only [pairs, List.length_cons]
    omega

theorem pairs_two : ∀ (l : List Int) (j : Nat) (h : 2 * j + 1 < l.length), (pairs l)[j]? = some ((l[2 * j] - 48) * 16 + (l[2 * j + 1] - 48))
  | [], j, h => by simp at h
  | [_], j, h => by simp at h
  | a :: b :: r, 0, h => rfl
  | a :: b :: r, j + 1, h => by
    have h' : 2 * j + 1 < r.length := by simp only [List.length_cons] at h; omega
    have ih := pairs_two r j h'
    simp only [pairs, List.getElem?_cons_succ, ih]
    rfl

theorem pairs_one : ∀ (l : List Int) (j : Nat) (h : 2 * j + 1 = l.length), (pairs l)[j]? = some ((l[2 * j] - 48) * 16)
  | [], j, h => by simp at h
  | [_], j, h => by
    have : j = 0 := by simp at h; omega
    subst this
    rfl
  | a :: b :: r, 0, h => by simp at h
  | a :: b :: r, j + 1, h => by
    have h' : 2 * j + 1 = r.length := by simp only [List.length_cons] at h; omega
    have ih := pairs_one r j h'
    simp only [pairs, List.getElem?_cons_succ, ih]
    rfl

/-- the byte that holds digit k: by the place's parity -/
theorem pairs_even (l : List Int) (hd : Dig l) (j : Nat) (h : 2 * j < l.length) : ∃ p, (pairs l)[j]? = some p ∧ p / 16 = l[2 * j] - 48 ∧ 0 ≤ p ∧ p ≤ 255 := by
  have h1 := hd.at (2 * j) h
  by_cases h2 : 2 * j + 1 < l.length
  · have h3 := hd.at (2 * j + 1) h2
    exact ⟨_, pairs_two l j h2, by omega, by omega, by omega⟩
  · exact ⟨_, pairs_one l j (by omega), by omega, by omega, by omega⟩

theorem pairs_odd (l : List Int) (hd : Dig l) (j : Nat) (h : 2 * j + 1 < l.length) : ∃ p x, (pairs l)[j]? = some p ∧ p = x * 16 + (l[2 * j + 1] - 48) ∧ 0 ≤ x ∧ x ≤ 9 := by
  have h1 := hd.at (2 * j) (by omega)
  exact ⟨_, l[2 * j] - 48, pairs_two l j h, rfl, by omega, by omega⟩

theorem pairs_last (l : List Int) (hd : Dig l) (h : l.length % 2 = 1) : ∃ x, (pairs l)[(l.length + 1) / 2 - 1]? = some (x * 16) ∧ 0 ≤ x ∧ x ≤ 9 := by
  have e : (l.length + 1) / 2 - 1 = l.length / 2 := by omega
  have h1 := hd.at (2 * (l.length / 2)) (by omega)
  exact ⟨l[2 * (l.length / 2)] - 48, by rw [e]; exact pairs_one l _ (by omega), by omega, by omega⟩

theorem take_succ_of {α : Type} {l : List α} {j : Nat} {x : α} (h : l[j]? = some x) : l.take (j + 1) = l.take j ++ [x] := by
  rw [List.take_add_one, h]
  rfl

end Go.Proofs.Qxb6629167a.Plain
