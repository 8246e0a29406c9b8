import Derived.Test.Qxb6629092aPlainWalk
namespace Go.Proofs.Qxb6629092a.Pw
open Go.RowKit
open Go.Proofs.Qxb6629092a.Plain

/-! ### What Plain answers, in one word for every string -/
def good (s : ByteArray) : Bool := decide (0 < s.size) && decide (s.size ≤ 18) && allD s.data.toList
def pv (s : ByteArray) : Int := if good s = true then val s.data.toList else 0
def pb (s : ByteArray) (m : Int) : Bool := good s && decide (val s.data.toList ≤ m)

theorem good_no_len {s : ByteArray} (h : s.size = 0 ∨ 18 < s.size) : good s = false := by
  unfold good
  rcases h with h | h
  · rw [decide_eq_false (p := 0 < s.size) (by omega)]; rfl
  · rw [decide_eq_false (p := s.size ≤ 18) (by omega), Bool.and_false]; rfl
theorem good_no_dig {s : ByteArray} (h : allD s.data.toList = false) : good s = false := by
  unfold good
  rw [h, Bool.and_false]
theorem good_yes {s : ByteArray} (h0 : 0 < s.size) (h1 : s.size ≤ 18) (h : allD s.data.toList = true) : good s = true := by
  unfold good
  rw [h, decide_eq_true h0, decide_eq_true h1]; rfl
theorem pv_no {s : ByteArray} (h : good s = false) : pv s = 0 := by unfold pv; rw [h]; rfl
theorem pb_no {s : ByteArray} (h : good s = false) (m : Int) : pb s m = false := by unfold pb; rw [h]; rfl
theorem pv_yes {s : ByteArray} (h : good s = true) : pv s = val s.data.toList := by unfold pv; rw [if_pos h]
theorem pb_yes {s : ByteArray} (h : good s = true) (m : Int) : pb s m = decide (val s.data.toList ≤ m) := by unfold pb; rw [h]; rfl

theorem plain_any (s : ByteArray) (m : Int) (w : World) (hs : s.size ≤ maxLen) :
    Calls Try.prog 6 #[.string s, .int .i64 m] w fun e w' => e = .returned (.tuple #[.int .i64 (pv s), .bool (pb s m)]) ∧ w' = w := by
  by_cases h : s.size = 0 ∨ 18 < s.size
  · rw [pv_no (good_no_len h), pb_no (good_no_len h)]
    exact plain_out s m w hs h
  · have h0 : 0 < s.size := by omega
    have h1 : s.size ≤ 18 := by omega
    cases ha : allD s.data.toList with
    | false =>
      rw [pv_no (good_no_dig ha), pb_no (good_no_dig ha)]
      exact plain_bad s m w h0 h1 ha
    | true =>
      rw [pv_yes (good_yes h0 h1 ha), pb_yes (good_yes h0 h1 ha)]
      exact plain_ok s m w h0 h1 ha

theorem pow_at (x : Int) (n : Nat) (hx : x = (n : Int)) (hn : n ≤ 18) (w : World) :
    Calls Try.prog 10 #[.int .i64 x] w fun r w' => r = .returned (.int .i64 (pw n)) ∧ w' = w := by
  subst hx
  exact pow_any n hn w

theorem data_lo (s : ByteArray) (k : Nat) : (s.extract 0 k).data.toList = s.data.toList.take k := by
  simp [ByteArray.data_extract]
theorem data_hi (s : ByteArray) (k : Nat) : (s.extract k s.size).data.toList = s.data.toList.drop k := by
  rw [ByteArray.data_extract, Array.toList_extract, List.extract_eq_take_drop]
  rw [← len_s s]
  exact List.take_of_length_le (by rw [List.length_drop]; omega)
theorem size_lo (s : ByteArray) (k : Nat) (h : k ≤ s.size) : (s.extract 0 k).size = k := by
  rw [ByteArray.size_extract]; omega
theorem size_hi (s : ByteArray) (k : Nat) : (s.extract k s.size).size = s.size - k := by
  rw [ByteArray.size_extract]; omega

/-- The parts of a text with a byte that is no digit: one of them has it. -/
theorem split_bad (s : ByteArray) (k : Nat) (h : allD s.data.toList = false) : good (s.extract 0 k) = false ∨ good (s.extract k s.size) = false := by
  have e : s.data.toList = s.data.toList.take k ++ s.data.toList.drop k := (List.take_append_drop k _).symm
  rw [e, allD_append] at h
  cases h1 : allD (s.data.toList.take k) with
  | false => left; apply good_no_dig; rw [data_lo]; exact h1
  | true =>
    right; apply good_no_dig; rw [data_hi]
    rw [h1] at h
    exact h

end Go.Proofs.Qxb6629092a.Pw
