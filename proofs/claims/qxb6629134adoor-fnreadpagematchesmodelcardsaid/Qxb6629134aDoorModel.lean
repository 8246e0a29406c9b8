/-
  THE PLAIN LAW: the model's digits against the library's parser. No Go in sight.
-/
import Derived.Lib.ParseIntB
namespace Go.Proofs.Qxb6629134aDoor
open Go

/-- the model's loop over digits: what it has read, or none at its first fault -/
def runI (acc : Int) : List UInt8 → Option Int
  | [] => some acc
  | c :: r =>
    if 48 ≤ (c.toNat : Int) ∧ (c.toNat : Int) ≤ 57 then
      if 2147483647 < acc * 10 + ((c.toNat : Int) - 48) then none else runI (acc * 10 + ((c.toNat : Int) - 48)) r
    else none

theorem runI_end (acc : Int) : runI acc [] = some acc := rfl
theorem runI_bad {acc : Int} {c : UInt8} {r : List UInt8} (h : (c.toNat : Int) < 48 ∨ 57 < (c.toNat : Int)) : runI acc (c :: r) = none := by
  rw [runI, if_neg (by omega)]
theorem runI_big {acc : Int} {c : UInt8} {r : List UInt8} (h : 48 ≤ (c.toNat : Int) ∧ (c.toNat : Int) ≤ 57) (hb : 2147483647 < acc * 10 + ((c.toNat : Int) - 48)) : runI acc (c :: r) = none := by
  rw [runI, if_pos h, if_pos hb]
theorem runI_step {acc : Int} {c : UInt8} {r : List UInt8} (h : 48 ≤ (c.toNat : Int) ∧ (c.toNat : Int) ≤ 57) (hb : ¬ 2147483647 < acc * 10 + ((c.toNat : Int) - 48)) : runI acc (c :: r) = runI (acc * 10 + ((c.toNat : Int) - 48)) r := by
  rw [runI, if_pos h, if_neg hb]

theorem uintM_ge (M : Nat) : ∀ (t : List UInt8) (acc u : Nat), Lib.parseUintM M acc t = .ok u → acc ≤ u
  | [], acc, u, h => by
    rw [Lib.parseUintM] at h
    cases h
    exact Nat.le_refl _
  | c :: r, acc, u, h => by
    rw [Lib.parseUintM] at h
    by_cases h1 : 48 ≤ c.toNat ∧ c.toNat ≤ 57
    · rw [if_pos h1] at h
      by_cases h2 : 1844674407370955162 ≤ acc
      · rw [if_pos h2] at h; cases h
      · rw [if_neg h2] at h
        by_cases h3 : M < acc * 10 + (c.toNat - 48)
        · rw [if_pos h3] at h; cases h
        · rw [if_neg h3] at h
          have := uintM_ge M r _ u h
          omega
    · rw [if_neg h1] at h; cases h

/-- the model's loop finds a number just where the parser finds that number and it is at most 2147483647 -/
theorem run_iff : ∀ (t : List UInt8) (acc : Nat), acc ≤ 2147483647 → ∀ n : Int, runI (acc : Int) t = some n ↔ ∃ u : Nat, Lib.parseUintM 4294967295 acc t = .ok u ∧ (u : Int) = n ∧ u ≤ 2147483647
  | [], acc, ha, n => by
    rw [runI_end, Lib.parseUintM]
    constructor
    · intro h; cases h; exact ⟨acc, rfl, rfl, ha⟩
    · rintro ⟨u, h, h2, _⟩; cases h; rw [h2]
  | c :: r, acc, ha, n => by
    by_cases h1 : 48 ≤ c.toNat ∧ c.toNat ≤ 57
    · have h1' : 48 ≤ (c.toNat : Int) ∧ (c.toNat : Int) ≤ 57 := by omega
      have e : (acc : Int) * 10 + ((c.toNat : Int) - 48) = ((acc * 10 + (c.toNat - 48) : Nat) : Int) := by omega
      rw [Lib.parseUintM, if_pos h1, if_neg (by omega)]
      by_cases h3 : 4294967295 < acc * 10 + (c.toNat - 48)
      · rw [if_pos h3, runI_big h1' (by omega)]
        constructor
        · intro h; cases h
        · rintro ⟨u, h, _⟩; cases h
      · rw [if_neg h3]
        by_cases h4 : 2147483647 < acc * 10 + (c.toNat - 48)
        · rw [runI_big h1' (by omega)]
          constructor
          · intro h; cases h
          · rintro ⟨u, h, _, h5⟩
            have := uintM_ge _ _ _ _ h
            omega
        · rw [runI_step h1' (by omega), e]
          exact run_iff r (acc * 10 + (c.toNat - 48)) (by omega) n
    · rw [Lib.parseUintM, if_neg h1, runI_bad (by omega)]
      constructor
      · intro h; cases h
      · rintro ⟨u, h, _⟩; cases h

/-- the digits behind an optional plus sign -/
def tailOf : List UInt8 → List UInt8
  | [] => []
  | c :: r => if c.toNat = 43 then r else c :: r

/-- the parser finds v, at least 1, just where the digits are there and the model's loop ends at v -/
theorem model_iff (l : List UInt8) (v : Int) (hv : 1 ≤ v) : Lib.parseIntB 32 l = .ok v ↔ tailOf l ≠ [] ∧ runI 0 (tailOf l) = some v := by
  have hM : (2 : Nat) ^ 32 - 1 = 4294967295 := by decide
  have h31 : (2 : Nat) ^ (32 - 1) = 2147483648 := by decide
  have run0 := fun t => run_iff t 0 (by omega) v
  cases l with
  | nil =>
    constructor
    · intro h; cases h
    · intro h; exact absurd rfl h.1
  | cons c r =>
    simp only [Lib.parseIntB, Lib.parseUintB, hM, h31, tailOf]
    by_cases hp : c.toNat = 43
    · have e1 : (if c.toNat = 43 ∨ c.toNat = 45 then r else c :: r) = r := if_pos (Or.inl hp)
      rw [if_pos hp, e1]
      by_cases hr : r = []
      · subst hr
        simp
      · rw [if_neg hr]
        have hi := run0 r
        generalize hq : Lib.parseUintM 4294967295 0 r = q at hi
        have hn : ¬ c.toNat = 45 := by omega
        rcases q with u | _ | _
        · by_cases hu : 2147483648 ≤ u
          · simp only [hn, not_false_eq_true, hu, and_self, if_true]
            constructor
            · intro h; cases h
            · rintro ⟨_, h⟩
              obtain ⟨u', h1, _, h3⟩ := hi.1 h
              cases h1
              omega
          · simp only [hn, not_false_eq_true, hu, and_false, false_and, if_false]
            constructor
            · intro h
              cases h
              exact ⟨hr, hi.2 ⟨u, rfl, rfl, by omega⟩⟩
            · rintro ⟨_, h⟩
              obtain ⟨u', h1, h2, _⟩ := hi.1 h
              cases h1
              rw [h2]
        · constructor
          · intro h; cases h
          · rintro ⟨_, h⟩
            obtain ⟨u', h1, _⟩ := hi.1 h
            cases h1
        · constructor
          · intro h; cases h
          · rintro ⟨_, h⟩
            obtain ⟨u', h1, _⟩ := hi.1 h
            cases h1
    · rw [if_neg hp]
      by_cases hm : c.toNat = 45
      · have e1 : (if c.toNat = 43 ∨ c.toNat = 45 then r else c :: r) = r := if_pos (Or.inr hm)
        rw [e1]
        have hbad : runI 0 (c :: r) = none := runI_bad (by omega)
        rw [hbad]
        constructor
        · intro h
          exfalso
          by_cases hr : r = []
          · rw [if_pos hr] at h
            cases h
          · rw [if_neg hr] at h
            generalize Lib.parseUintM 4294967295 0 r = q at h
            rcases q with u | _ | _
            · simp only [hm, not_true_eq_false, false_and, if_false, true_and, if_true] at h
              by_cases hu : 2147483648 < u
              · rw [if_pos hu] at h; cases h
              · rw [if_neg hu] at h
                cases h
                omega
            · cases h
            · cases h
        · rintro ⟨_, h⟩; cases h
      · have e1 : (if c.toNat = 43 ∨ c.toNat = 45 then r else c :: r) = c :: r := if_neg (by omega)
        rw [e1, if_neg (by simp)]
        have hi := run0 (c :: r)
        generalize hq : Lib.parseUintM 4294967295 0 (c :: r) = q at hi
        rcases q with u | _ | _
        · by_cases hu : 2147483648 ≤ u
          · simp only [hm, not_false_eq_true, hu, and_self, if_true]
            constructor
            · intro h; cases h
            · rintro ⟨_, h⟩
              obtain ⟨u', h1, _, h3⟩ := hi.1 h
              cases h1
              omega
          · simp only [hm, not_false_eq_true, hu, and_false, false_and, if_false]
            constructor
            · intro h
              cases h
              exact ⟨by simp, hi.2 ⟨u, rfl, rfl, by omega⟩⟩
            · rintro ⟨_, h⟩
              obtain ⟨u', h1, h2, _⟩ := hi.1 h
              cases h1
              rw [h2]
        · constructor
          · intro h; cases h
          · rintro ⟨_, h⟩
            obtain ⟨u', h1, _⟩ := hi.1 h
            cases h1
        · constructor
          · intro h; cases h
          · rintro ⟨_, h⟩
            obtain ⟨u', h1, _⟩ := hi.1 h
            cases h1

end Go.Proofs.Qxb6629134aDoor
