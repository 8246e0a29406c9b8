/-
  THE PLAIN MATHEMATICS OF THE SEAT: decimal digits and their value. No Go in sight.
-/
namespace Go.Proofs.Qxb6629092a.Plain

def isD (c : UInt8) : Bool := decide (48 ≤ (c.toNat : Int) ∧ (c.toNat : Int) ≤ 57)
def allD (l : List UInt8) : Bool := l.all isD
def val (l : List UInt8) : Int := l.foldl (fun a c => a * 10 + ((c.toNat : Int) - 48)) 0
def pw (n : Nat) : Int := ((10 ^ n : Nat) : Int)

theorem isD_true {c : UInt8} (h : isD c = true) : 48 ≤ (c.toNat : Int) ∧ (c.toNat : Int) ≤ 57 := by
  simpa [isD] using h

theorem isD_mk {c : UInt8} (h0 : 48 ≤ (c.toNat : Int)) (h1 : (c.toNat : Int) ≤ 57) : isD c = true := by
  simp [isD]; omega

theorem isD_lo {c : UInt8} (h : (c.toNat : Int) < 48) : isD c = false := by
  simp [isD]; omega

theorem isD_hi {c : UInt8} (h : 57 < (c.toNat : Int)) : isD c = false := by
  simp [isD]; omega

theorem val_nil : val [] = 0 := rfl

theorem val_snoc (l : List UInt8) (c : UInt8) : val (l ++ [c]) = val l * 10 + ((c.toNat : Int) - 48) := by
  simp [val, List.foldl_append]

theorem allD_snoc (l : List UInt8) (c : UInt8) : allD (l ++ [c]) = (allD l && isD c) := by
  simp [allD]

theorem allD_append (a b : List UInt8) : allD (a ++ b) = (allD a && allD b) := by
  simp [allD]

theorem allD_take {l : List UInt8} (h : allD l = true) (k : Nat) : allD (l.take k) = true := by
  simp only [allD, List.all_eq_true] at h ⊢
  intro x hx
  exact h x (List.mem_of_mem_take hx)

theorem allD_drop {l : List UInt8} (h : allD l = true) (k : Nat) : allD (l.drop k) = true := by
  simp only [allD, List.all_eq_true] at h ⊢
  intro x hx
  exact h x (List.mem_of_mem_drop hx)

theorem allD_get {l : List UInt8} (h : allD l = true) (k : Nat) (hk : k < l.length) : isD l[k] = true := by
  simp only [allD, List.all_eq_true] at h
  exact h _ (List.getElem_mem hk)

theorem allD_false_of {l : List UInt8} {k : Nat} (hk : k < l.length) (h : isD l[k] = false) : allD l = false := by
  cases hb : allD l with
  | false => rfl
  | true => have := allD_get hb k hk; rw [this] at h; cases h

theorem take_snoc (l : List UInt8) (k : Nat) (h : k < l.length) : l.take (k + 1) = l.take k ++ [l[k]] :=
  List.take_succ_eq_append_getElem h

theorem val_take_succ (l : List UInt8) (k : Nat) (h : k < l.length) : val (l.take (k + 1)) = val (l.take k) * 10 + ((l[k].toNat : Int) - 48) := by
  rw [take_snoc l k h, val_snoc]

theorem pw_zero : pw 0 = 1 := rfl
theorem pw_succ (n : Nat) : pw (n + 1) = pw n * 10 := by
  simp only [pw, Nat.pow_succ]; omega

theorem pw_mono {a b : Nat} (h : a ≤ b) : pw a ≤ pw b := by
  have := Nat.pow_le_pow_right (n := 10) (by decide) h
  simp only [pw]; omega

theorem pw_pos (n : Nat) : 1 ≤ pw n := by
  have := pw_mono (Nat.zero_le n)
  rw [pw_zero] at this; exact this

theorem val_bounds_aux (n : Nat) : ∀ l : List UInt8, l.length = n → allD l = true → 0 ≤ val l ∧ val l < pw n := by
  induction n with
  | zero => intro l hl _; have : l = [] := List.eq_nil_of_length_eq_zero hl; subst this; exact ⟨by decide, by decide⟩
  | succ n ih =>
    intro l hl ha
    have hk : n < l.length := by omega
    have e : l = l.take (n + 1) := by rw [List.take_of_length_le (by omega)]
    have h1 := val_take_succ l n hk
    rw [← e] at h1
    have h2 := ih (l.take n) (by rw [List.length_take]; omega) (allD_take ha n)
    have h3 := isD_true (allD_get ha n hk)
    rw [pw_succ]
    omega

theorem val_bounds (l : List UInt8) (h : allD l = true) : 0 ≤ val l ∧ val l < pw l.length := val_bounds_aux l.length l rfl h

theorem pw17 : pw 17 = 100000000000000000 := by decide
theorem pw18 : pw 18 = 1000000000000000000 := by decide

theorem val_17 {l : List UInt8} (h : allD l = true) (hl : l.length ≤ 17) : 0 ≤ val l ∧ val l ≤ 99999999999999999 := by
  have h1 := val_bounds l h
  have h2 := pw_mono hl
  rw [pw17] at h2
  omega

theorem val_18 {l : List UInt8} (h : allD l = true) (hl : l.length ≤ 18) : 0 ≤ val l ∧ val l ≤ 999999999999999999 := by
  have h1 := val_bounds l h
  have h2 := pw_mono hl
  rw [pw18] at h2
  omega

theorem val_append_aux (n : Nat) : ∀ a b : List UInt8, b.length = n → val (a ++ b) = val a * pw n + val b := by
  induction n with
  | zero => intro a b hb; have : b = [] := List.eq_nil_of_length_eq_zero hb; subst this; simp [val_nil, pw_zero]
  | succ n ih =>
    intro a b hb
    have hk : n < b.length := by omega
    have e : b = b.take n ++ [b[n]] := by rw [← take_snoc b n hk, List.take_of_length_le (by omega)]
    have h1 := ih a (b.take n) (by rw [List.length_take]; omega)
    have h2 : val (a ++ b) = val (a ++ b.take n) * 10 + ((b[n].toNat : Int) - 48) := by
      conv => lhs; rw [e, ← List.append_assoc, val_snoc]
    have h3 : val b = val (b.take n) * 10 + ((b[n].toNat : Int) - 48) := by
      conv => lhs; rw [e, val_snoc]
    rw [h2, h3, h1, pw_succ, ← Int.mul_assoc, Int.add_mul]
    omega

theorem val_append (a b : List UInt8) : val (a ++ b) = val a * pw b.length + val b := val_append_aux b.length a b rfl

theorem val_cut (l : List UInt8) (k : Nat) : val l = val (l.take k) * pw (l.length - k) + val (l.drop k) := by
  have h := val_append (l.take k) (l.drop k)
  rw [List.take_append_drop, List.length_drop] at h
  exact h

/-! one step of writing the digits back: the last digit of 'val (take (k + 1))' is the byte there -/
theorem val_mod (l : List UInt8) (k : Nat) (h : k < l.length) (ha : allD l = true) : val (l.take (k + 1)) % 10 = (l[k].toNat : Int) - 48 ∧ val (l.take (k + 1)) / 10 = val (l.take k) := by
  have h1 := val_take_succ l k h
  have h2 := isD_true (allD_get ha k h)
  omega

end Go.Proofs.Qxb6629092a.Plain
