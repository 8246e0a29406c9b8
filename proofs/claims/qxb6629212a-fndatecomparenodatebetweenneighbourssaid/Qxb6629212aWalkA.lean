import Derived.Test.Qxb6629212aRows
import Derived.WalkKit
import Derived.WalkSpells
import Derived.WalkLawsBesides
namespace Go.Proofs.Qxb6629212a.Pw
open Go.RowKit

theorem ret_int {k : IntKind} {a b : Int} (h : a = b) : Ending.returned (.int k a) = .returned (.int k b) := by rw [h]

/-! ### floor division, plain -/
theorem tdiv_neg (a b : Int) (h : a ≤ 0) : a.tdiv b = -((-a) / b) := by
  have e : a = -(-a) := by omega
  conv => lhs; rw [e]
  rw [Int.neg_tdiv, Int.tdiv_eq_ediv_of_nonneg (by omega)]
theorem tmod_neg (a b : Int) (h : a ≤ 0) : a.tmod b = -((-a) % b) := by
  have e : a = -(-a) := by omega
  conv => lhs; rw [e]
  rw [Int.neg_tmod, Int.tmod_eq_emod_of_nonneg (by omega)]

set_option maxHeartbeats 400000 in
theorem fdiv_at32 (a q : Int) (ha : -9223372036854775808 ≤ a ∧ a ≤ 9223372036854775807) (h1 : 32 * q ≤ a) (h2 : a < 32 * q + 32) (w : World) :
    Calls Try.prog 9 #[.int .i64 a, .int .i64 32] w fun e w' => e = .returned (.int .i64 q) ∧ w' = w := by
  by_cases h : 0 ≤ a
  · have hq : a / 32 = q := by omega
    by_cases hr : a % 32 = 0
    · go_enter Try.func9, Try.ntmps9
      go_wp2
      go_ret
      exact ⟨ret_int hq, rfl⟩
    · go_enter Try.func9, Try.ntmps9
      go_wp2
      go_ret
      exact ⟨rfl, rfl⟩
  · by_cases hr : a = 32 * q
    · have hq : a.tdiv 32 = q := by rw [tdiv_neg _ _ (by omega)]; omega
      have hm : a.tmod 32 = 0 := by rw [tmod_neg _ _ (by omega)]; omega
      clear hr
      go_enter Try.func9, Try.ntmps9
      go_wp2
      go_ret
      exact ⟨rfl, rfl⟩
    · have hq : a.tdiv 32 = q + 1 := by rw [tdiv_neg _ _ (by omega)]; omega
      have hm : (a.tmod 32 != 0) = true := by rw [tmod_neg _ _ (by omega), bne_iff_ne]; omega
      clear hr
      go_enter Try.func9, Try.ntmps9
      go_wp2
      go_ret
      exact ⟨ret_int (by omega), rfl⟩

set_option maxHeartbeats 400000 in
theorem fdiv_at12 (a q : Int) (ha : -9223372036854775808 ≤ a ∧ a ≤ 9223372036854775807) (h1 : 12 * q ≤ a) (h2 : a < 12 * q + 12) (w : World) :
    Calls Try.prog 9 #[.int .i64 a, .int .i64 12] w fun e w' => e = .returned (.int .i64 q) ∧ w' = w := by
  by_cases h : 0 ≤ a
  · have hq : a / 12 = q := by omega
    by_cases hr : a % 12 = 0
    · go_enter Try.func9, Try.ntmps9
      go_wp2
      go_ret
      exact ⟨ret_int hq, rfl⟩
    · go_enter Try.func9, Try.ntmps9
      go_wp2
      go_ret
      exact ⟨rfl, rfl⟩
  · by_cases hr : a = 12 * q
    · have hq : a.tdiv 12 = q := by rw [tdiv_neg _ _ (by omega)]; omega
      have hm : a.tmod 12 = 0 := by rw [tmod_neg _ _ (by omega)]; omega
      clear hr
      go_enter Try.func9, Try.ntmps9
      go_wp2
      go_ret
      exact ⟨rfl, rfl⟩
    · have hq : a.tdiv 12 = q + 1 := by rw [tdiv_neg _ _ (by omega)]; omega
      have hm : (a.tmod 12 != 0) = true := by rw [tmod_neg _ _ (by omega), bne_iff_ne]; omega
      clear hr
      go_enter Try.func9, Try.ntmps9
      go_wp2
      go_ret
      exact ⟨ret_int (by omega), rfl⟩

/-! ### the sign of a difference -/
def sg (a b : Int) : Int := if a < b then -1 else if b < a then 1 else 0
theorem sg_lt {a b : Int} (h : a < b) : sg a b = -1 := by unfold sg; rw [if_pos h]
theorem sg_gt {a b : Int} (h : b < a) : sg a b = 1 := by unfold sg; rw [if_neg (by omega), if_pos h]
theorem sg_eq (a : Int) : sg a a = 0 := by unfold sg; rw [if_neg (by omega), if_neg (by omega)]

set_option maxHeartbeats 400000 in
theorem sign_any (a b : Int) (w : World) :
    Calls Try.prog 10 #[.int .i64 a, .int .i64 b] w fun e w' => e = .returned (.int .i64 (sg a b)) ∧ w' = w := by
  by_cases h : a < b
  · rw [sg_lt h]
    go_enter Try.func10, Try.ntmps10
    go_wp2
    go_ret
    exact ⟨rfl, rfl⟩
  by_cases h' : b < a
  · rw [sg_gt h']
    go_enter Try.func10, Try.ntmps10
    go_wp2
    go_ret
    exact ⟨rfl, rfl⟩
  obtain rfl : a = b := by omega
  rw [sg_eq]
  go_enter Try.func10, Try.ntmps10
  go_wp2
  go_ret
  exact ⟨rfl, rfl⟩

set_option maxHeartbeats 400000 in
theorem day_any (a q : Int) (ha : -9223372036854775808 ≤ a ∧ a ≤ 9223372036854775807) (h1 : 32 * q ≤ a) (h2 : a < 32 * q + 32) (w : World) :
    Calls Try.prog 5 #[.int .i64 a] w fun e w' => e = .returned (.int .i64 (a - 32 * q)) ∧ w' = w := by
  go_enter Try.func5, Try.ntmps5
  go_wp2_with (go_at_call 9; refine (fdiv_at32 a q ha h1 h2 _).mono ?_; rintro e w' ⟨rfl, rfl⟩)
  go_ret
  exact ⟨rfl, rfl⟩

set_option maxHeartbeats 400000 in
theorem date_any (a : Int) (w : World) :
    Calls Try.prog 6 #[.int .i64 a] w fun e w' => e = .returned (.agg #[.int .i64 a]) ∧ w.alloc (.cells #[.int .i64 a] 24) = w' := by
  go_enter Try.func6, Try.ntmps6
  go_wp2
  exact bodyPost_ret (v := .agg #[.int .i64 a]) (by simp [results, Try.results6, go_sem]) rfl ⟨rfl, rfl⟩

set_option maxHeartbeats 400000 in
theorem cmp_any (a b : Int) (w : World) :
    Calls Try.prog 8 #[.agg #[.int .i64 a], .agg #[.int .i64 b]] w fun e w' => e = .returned (.int .i64 (sg a b)) ∧ (w.alloc (.cells #[.int .i64 a] 24)).alloc (.cells #[.int .i64 b] 24) = w' := by
  by_cases h : a < b
  · rw [sg_lt h]
    go_enter Try.func8, Try.ntmps8
    go_wp2
    go_ret
    exact ⟨rfl, rfl⟩
  by_cases h' : b < a
  · rw [sg_gt h']
    go_enter Try.func8, Try.ntmps8
    go_wp2
    go_ret
    exact ⟨rfl, rfl⟩
  obtain rfl : a = b := by omega
  rw [sg_eq]
  go_enter Try.func8, Try.ntmps8
  go_wp2
  go_ret
  exact ⟨rfl, rfl⟩

/-! ### lexYMD: the order of the triples is the order of the numbers -/
set_option maxHeartbeats 1000000 in
theorem lex_letters (a b m1 m2 y1 y2 : Int) (ha : -9223372036854775808 ≤ a ∧ a ≤ 9223372036854775807) (hb : -9223372036854775808 ≤ b ∧ b ≤ 9223372036854775807)
    (a1 : 32 * m1 ≤ a) (a2 : a < 32 * m1 + 32) (b1 : 32 * m2 ≤ b) (b2 : b < 32 * m2 + 32)
    (c1 : 12 * y1 ≤ m1) (c2 : m1 < 12 * y1 + 12) (d1 : 12 * y2 ≤ m2) (d2 : m2 < 12 * y2 + 12) (w : World)
    (sy : sg y1 y2 ≠ 0 → sg y1 y2 = sg a b) (sm : sg y1 y2 = 0 → sg (m1 - 12 * y1) (m2 - 12 * y2) ≠ 0 → sg (m1 - 12 * y1) (m2 - 12 * y2) = sg a b)
    (sd : sg y1 y2 = 0 → sg (m1 - 12 * y1) (m2 - 12 * y2) = 0 → sg (a - 32 * m1) (b - 32 * m2) = sg a b) :
    Calls Try.prog 7 #[.int .i64 a, .int .i64 b] w fun e w' => e = .returned (.int .i64 (sg a b)) ∧ w' = w := by
  have hm1 : -9223372036854775808 ≤ m1 ∧ m1 ≤ 9223372036854775807 := by omega
  have hm2 : -9223372036854775808 ≤ m2 ∧ m2 ≤ 9223372036854775807 := by omega
  go_enter Try.func7, Try.ntmps7
  go_wp2_with fail
  refine (fdiv_at32 a m1 ha a1 a2 _).mono ?_
  rintro e w' ⟨rfl, rfl⟩
  go_wp2_with fail
  refine (fdiv_at12 m1 y1 hm1 c1 c2 _).mono ?_
  rintro e w' ⟨rfl, rfl⟩
  go_wp2_with fail
  refine (fdiv_at32 b m2 hb b1 b2 _).mono ?_
  rintro e w' ⟨rfl, rfl⟩
  go_wp2_with fail
  refine (fdiv_at12 m2 y2 hm2 d1 d2 _).mono ?_
  rintro e w' ⟨rfl, rfl⟩
  go_wp2_with (go_at_call 10; refine (sign_any _ _ _).mono ?_; rintro e w' ⟨rfl, rfl⟩)
  · have h : (sg y1 y2 != 0) = true := by assumption
    go_ret
    exact ⟨ret_int (sy (by simpa using h)), rfl⟩
  · have h : (sg y1 y2 != 0) = false := by assumption
    have h' : (sg (m1 - 12 * y1) (m2 - 12 * y2) != 0) = true := by assumption
    go_ret
    exact ⟨ret_int (sm (by simpa using h) (by simpa using h')), rfl⟩
  · have h : (sg y1 y2 != 0) = false := by assumption
    have h' : (sg (m1 - 12 * y1) (m2 - 12 * y2) != 0) = false := by assumption
    go_ret
    exact ⟨ret_int (sd (by simpa using h) (by simpa using h')), rfl⟩

theorem lex_any (a b : Int) (ha : -9223372036854775808 ≤ a ∧ a ≤ 9223372036854775807) (hb : -9223372036854775808 ≤ b ∧ b ≤ 9223372036854775807) (w : World) :
    Calls Try.prog 7 #[.int .i64 a, .int .i64 b] w fun e w' => e = .returned (.int .i64 (sg a b)) ∧ w' = w := by
  refine lex_letters a b (a / 32) (b / 32) (a / 32 / 12) (b / 32 / 12) ha hb (by omega) (by omega) (by omega) (by omega) (by omega) (by omega) (by omega) (by omega) w ?_ ?_ ?_
  · unfold sg; intro h; repeat' split
    all_goals omega
  · unfold sg; intro h h'; repeat' split
    all_goals omega
  · unfold sg; intro h h'; repeat' split
    all_goals omega

end Go.Proofs.Qxb6629212a.Pw
