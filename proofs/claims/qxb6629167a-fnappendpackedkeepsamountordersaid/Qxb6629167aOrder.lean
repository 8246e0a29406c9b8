/-
  THE PLAIN MATHEMATICS OF THE ORDER: packed amounts compare as the amounts. No Go in sight.
-/
import Derived.Test.Qxb6629167aPlain
namespace Go.Proofs.Qxb6629167a.Plain

/-- the lexicographic order: -1, 0, 1 -/
def lexc : List Int → List Int → Int
  | [], [] => 0
  | [], _ :: _ => -1
  | _ :: _, [] => 1
  | a :: as, b :: bs => if a < b then -1 else if b < a then 1 else lexc as bs

/-- the order of canonical amounts: more digits is greater -/
def cmpA (a b : List Int) : Int := if a.length < b.length then -1 else if b.length < a.length then 1 else lexc a b

theorem lexc_lt {a b : Int} {as bs : List Int} (h : a < b) : lexc (a :: as) (b :: bs) = -1 := by rw [lexc, if_pos h]
theorem lexc_gt {a b : Int} {as bs : List Int} (h : b < a) : lexc (a :: as) (b :: bs) = 1 := by rw [lexc, if_neg (by omega), if_pos h]
theorem lexc_eq {a : Int} {as bs : List Int} : lexc (a :: as) (a :: bs) = lexc as bs := by rw [lexc, if_neg (by omega), if_neg (by omega)]
theorem lexc_refl : ∀ a : List Int, lexc a a = 0
  | [] => rfl
  | _ :: as => by rw [lexc_eq, lexc_refl as]

theorem drop_at {l : List Int} {k : Nat} (h : k < l.length) : l.drop k = l[k] :: l.drop (k + 1) := List.drop_eq_getElem_cons h

theorem dig_tail {a : Int} {l : List Int} (h : Dig (a :: l)) : Dig l := fun c hc => h c (List.mem_cons_of_mem _ hc)
theorem dig_head {a : Int} {l : List Int} (h : Dig (a :: l)) : 48 ≤ a ∧ a ≤ 57 := h a List.mem_cons_self

theorem lexc_pairs : ∀ a b : List Int, a.length = b.length → Dig a → Dig b → lexc (pairs a) (pairs b) = lexc a b
  | [], [], _, _, _ => rfl
  | [], _ :: _, h, _, _ => by simp at h
  | _ :: _, [], h, _, _ => by simp at h
  | [x], [y], _, ha, hb => by
    have h1 := dig_head ha
    have h2 := dig_head hb
    simp only [pairs]
    by_cases e : x < y
    · rw [lexc_lt (by omega), lexc_lt e]
    by_cases e' : y < x
    · rw [lexc_gt (by omega), lexc_gt e']
    obtain rfl : x = y := by omega
    rw [lexc_eq, lexc_eq]
  | [_], _ :: _ :: _, h, _, _ => by simp at h
  | _ :: _ :: _, [_], h, _, _ => by simp at h
  | x :: x2 :: r, y :: y2 :: s, h, ha, hb => by
    have h1 := dig_head ha
    have h2 := dig_head hb
    have h3 := dig_head (dig_tail ha)
    have h4 := dig_head (dig_tail hb)
    have hl : r.length = s.length := by simp only [List.length_cons] at h; omega
    have ih := lexc_pairs r s hl (dig_tail (dig_tail ha)) (dig_tail (dig_tail hb))
    simp only [pairs]
    by_cases e : x < y
    · rw [lexc_lt (by omega), lexc_lt e]
    by_cases e' : y < x
    · rw [lexc_gt (by omega), lexc_gt e']
    obtain rfl : x = y := by omega
    rw [lexc_eq (a := x) (as := x2 :: r)]
    by_cases f : x2 < y2
    · rw [lexc_lt (by omega), lexc_lt f]
    by_cases f' : y2 < x2
    · rw [lexc_gt (by omega), lexc_gt f']
    obtain rfl : x2 = y2 := by omega
    rw [lexc_eq, lexc_eq, ih]

theorem packed_order (a b : List Int) (ha : Dig a) (hb : Dig b) : lexc ([(a.length : Int)] ++ pairs a) ([(b.length : Int)] ++ pairs b) = cmpA a b := by
  unfold cmpA
  simp only [List.cons_append, List.nil_append]
  by_cases e : a.length < b.length
  · rw [if_pos e, lexc_lt (by omega)]
  by_cases e' : b.length < a.length
  · rw [if_neg e, if_pos e', lexc_gt (by omega)]
  rw [if_neg e, if_neg e']
  have h : a.length = b.length := by omega
  rw [h, lexc_eq, lexc_pairs a b h ha hb]

end Go.Proofs.Qxb6629167a.Plain
