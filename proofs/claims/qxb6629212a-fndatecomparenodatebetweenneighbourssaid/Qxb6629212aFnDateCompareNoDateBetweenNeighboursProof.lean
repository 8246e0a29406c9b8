/-
  THE PROOF OF 'Rows.FnDateCompareNoDateBetweenNeighboursSaid': the frame is the guide's shell; the walk over the contracts of Qxb6629212aWalkA.
-/
import Derived.Test.Qxb6629212aRows
import Derived.WalkKit
import Derived.ProofKit
import Derived.OpenShut
import Derived.ShutString
import Derived.Test.Qxb6629212aWalkA
namespace Go.Proofs.Qxb6629212a.fnDateCompareNoDateBetweenNeighbours
open Go.ChangeShapes Go.WideShapes Go.ChangeAt Go.RowKit
open Go.ChangeMaps (open_string shut_string)
set_option linter.unusedVariables false      -- a walk need not use every 'w<i>' (that an integer argument fits its kind)

theorem own : ownKnob Try.prog.godebug = none := by kernel_rfl

/-! ### STEP 1: THE WALK -/
open Go.Proofs.Qxb6629212a.Pw

theorem range64 {a : Int} (h : (Lit.int .i64 a).wf = true) : -9223372036854775808 ≤ a ∧ a ≤ 9223372036854775807 := by
  have := bounds_i64 h
  omega

set_option maxHeartbeats 400000 in
theorem walk_far (a b m1 m2 : Int) (ha : -9223372036854775808 ≤ a ∧ a ≤ 9223372036854775807) (hb : -9223372036854775808 ≤ b ∧ b ≤ 9223372036854775807)
    (a1 : 32 * m1 ≤ a) (a2 : a < 32 * m1 + 32) (b1 : 32 * m2 ≤ b) (b2 : b < 32 * m2 + 32) (h : 9223372036854775743 < a ∨ 30 < a - 32 * m1 ∨ 30 < b - 32 * m2) (w : World) :
    Calls Try.prog 4 #[.int .i64 a, .int .i64 b] w fun e w' => e = .returned (.bool true) ∧ Grown w w' := by
  by_cases e0 : 9223372036854775743 < a
  · clear h
    go_enter Try.func4, Try.ntmps4
    go_wp2
    go_ret
    exact ⟨rfl, Grown.refl _⟩
  by_cases e1 : 30 < a - 32 * m1
  · clear h
    go_enter Try.func4, Try.ntmps4
    go_wp2_with fail
    refine (day_any a m1 ha a1 a2 _).mono ?_
    rintro e w' ⟨rfl, rfl⟩
    go_wp2
    go_ret
    exact ⟨rfl, Grown.refl _⟩
  have e2 : 30 < b - 32 * m2 := by omega
  clear h
  go_enter Try.func4, Try.ntmps4
  go_wp2_with fail
  refine (day_any a m1 ha a1 a2 _).mono ?_
  rintro e w' ⟨rfl, rfl⟩
  go_wp2_with fail
  refine (day_any b m2 hb b1 b2 _).mono ?_
  rintro e w' ⟨rfl, rfl⟩
  go_wp2
  go_ret
  exact ⟨rfl, Grown.refl _⟩

set_option maxHeartbeats 400000 in
theorem walk_next (a b m1 m2 x y : Int) (ha : -9223372036854775808 ≤ a ∧ a ≤ 9223372036854775807) (hb : -9223372036854775808 ≤ b ∧ b ≤ 9223372036854775807)
    (a1 : 32 * m1 ≤ a) (a2 : a < 32 * m1 + 32) (b1 : 32 * m2 ≤ b) (b2 : b < 32 * m2 + 32) (e0 : a ≤ 9223372036854775743) (e1 : a - 32 * m1 ≤ 30) (e2 : b - 32 * m2 ≤ 30) (e3 : a - 32 * m1 < 30)
    (s1 : sg a (a + 1) = -1) (s2 : sg (a + 1) a = 1) (s3 : sg b a = x) (s4 : sg b (a + 1) = y) (hxy : (x == 1) = (y != -1)) (w : World) :
    Calls Try.prog 4 #[.int .i64 a, .int .i64 b] w fun e w' => e = .returned (.bool true) ∧ Grown w w' := by
  go_enter Try.func4, Try.ntmps4
  go_wp2_with fail
  refine (day_any _ m1 ha a1 a2 _).mono ?_
  rintro e w' ⟨rfl, rfl⟩
  go_wp2_with fail
  refine (day_any _ m2 hb b1 b2 _).mono ?_
  rintro e w' ⟨rfl, rfl⟩
  go_wp2_with fail
  refine (day_any _ m1 ha a1 a2 _).mono ?_
  rintro e w' ⟨rfl, rfl⟩
  go_wp2_with (first | (go_at_call 9; refine (fdiv_at32 _ m1 ha a1 a2 _).mono ?_; rintro e w' ⟨rfl, rfl⟩) | (go_at_call 6; refine (date_any _ _).mono ?_; rintro e w' ⟨rfl, rfl⟩) | (go_at_call 8; refine (cmp_any _ _ _).mono ?_; rintro e w' ⟨rfl, rfl⟩))
  go_ret
  refine ⟨rfl, ?_⟩
  repeat refine Grown.alloc ?_ _ _
  exact Grown.refl _

set_option maxHeartbeats 400000 in
theorem walk_last (a b m1 m2 x y : Int) (ha : -9223372036854775808 ≤ a ∧ a ≤ 9223372036854775807) (hb : -9223372036854775808 ≤ b ∧ b ≤ 9223372036854775807)
    (a1 : 32 * m1 ≤ a) (a2 : a < 32 * m1 + 32) (b1 : 32 * m2 ≤ b) (b2 : b < 32 * m2 + 32) (e0 : a ≤ 9223372036854775743) (e1 : a - 32 * m1 ≤ 30) (e2 : b - 32 * m2 ≤ 30) (e3 : 30 ≤ a - 32 * m1)
    (s1 : sg a ((m1 + 1) * 32) = -1) (s2 : sg ((m1 + 1) * 32) a = 1) (s3 : sg b a = x) (s4 : sg b ((m1 + 1) * 32) = y) (hxy : (x == 1) = (y != -1)) (w : World) :
    Calls Try.prog 4 #[.int .i64 a, .int .i64 b] w fun e w' => e = .returned (.bool true) ∧ Grown w w' := by
  go_enter Try.func4, Try.ntmps4
  go_wp2_with fail
  refine (day_any _ m1 ha a1 a2 _).mono ?_
  rintro e w' ⟨rfl, rfl⟩
  go_wp2_with fail
  refine (day_any _ m2 hb b1 b2 _).mono ?_
  rintro e w' ⟨rfl, rfl⟩
  go_wp2_with fail
  refine (day_any _ m1 ha a1 a2 _).mono ?_
  rintro e w' ⟨rfl, rfl⟩
  go_wp2_with (first | (go_at_call 9; refine (fdiv_at32 _ m1 ha a1 a2 _).mono ?_; rintro e w' ⟨rfl, rfl⟩) | (go_at_call 6; refine (date_any _ _).mono ?_; rintro e w' ⟨rfl, rfl⟩) | (go_at_call 8; refine (cmp_any _ _ _).mono ?_; rintro e w' ⟨rfl, rfl⟩))
  go_ret
  refine ⟨rfl, ?_⟩
  repeat refine Grown.alloc ?_ _ _
  exact Grown.refl _

/-- the plain law: of a date e that is not day 32 of a month, 'e after d' and 'e not before the next slot n' are one. -/
theorem between {a b n : Int} (h : a < n) (hb : b ≤ a ∨ n ≤ b) : (sg b a == 1) = (sg b n != -1) := by
  rcases hb with hb | hb
  · rw [sg_lt (show b < n by omega)]
    by_cases e : b < a
    · rw [sg_lt e]; rfl
    · obtain rfl : b = a := by omega
      rw [sg_eq]; rfl
  · rw [sg_gt (show a < b by omega)]
    by_cases e : n < b
    · rw [sg_gt e]; rfl
    · obtain rfl : b = n := by omega
      rw [sg_eq]; rfl

theorem walk (a0 : Int) (a1 : Int) (w0 : (Lit.int .i64 a0).wf = true) (w1 : (Lit.int .i64 a1).wf = true) (w : World) :
    Calls Try.prog 4 #[.int .i64 a0, .int .i64 a1] w fun e w' => e = .returned (.bool true) ∧ Grown w w' := by
  have h0 := range64 w0
  have h1 := range64 w1
  by_cases h : 9223372036854775743 < a0 ∨ 30 < a0 - 32 * (a0 / 32) ∨ 30 < a1 - 32 * (a1 / 32)
  · exact walk_far a0 a1 (a0 / 32) (a1 / 32) h0 h1 (by omega) (by omega) (by omega) (by omega) h w
  by_cases e3 : a0 - 32 * (a0 / 32) < 30
  · exact walk_next a0 a1 (a0 / 32) (a1 / 32) _ _ h0 h1 (by omega) (by omega) (by omega) (by omega) (by omega) (by omega) (by omega) e3
      (sg_lt (by omega)) (sg_gt (by omega)) rfl rfl (between (by omega) (by omega)) w
  · exact walk_last a0 a1 (a0 / 32) (a1 / 32) _ _ h0 h1 (by omega) (by omega) (by omega) (by omega) (by omega) (by omega) (by omega) (by omega)
      (sg_lt (by omega)) (sg_gt (by omega)) rfl rfl (between (by omega) (by omega)) w

/-! ### THE ROW's STEP: WRITTEN OUT: LEAVE IT -/
set_option maxRecDepth 100000 in
theorem lifted (os : Os) (started : os.Started) (H : Type) (enc : TypeId × Value → H) :
    ReturnsInHanded {} Try.checked os 4 .any (Rows.fnDateCompareNoDateBetweenNeighboursSpec.pre6 enc Try.prog Try.f4 Rows.fnDateCompareNoDateBetweenNeighboursRow.domain false) (Rows.fnDateCompareNoDateBetweenNeighboursSpec.post enc Try.prog Try.f4 false true false false) := by
  refine returnsInHanded_of_change (C := Try.checked) own started (by kernel_rfl) Try.func4
    (ChangeSpec.witness6 (enc := enc) (C := Try.checked) false ⟨#[], #[.int .i64 0, .int .i64 0], []⟩ 8 (by kernel_rfl) (by kernel_rfl) (by kernel_rfl) (by kernel_rfl)) ?_
  intro W base args ds gs before hval0 hW hcnd _
  have hval : ∀ (j : Nat) t v, Try.f4.params[j]? = some t → args[j]? = some v → Value.okWide Try.prog W .any base t v := hval0
  have hW' := hW
  obtain ⟨p, q, hA0, hV, rfl, hfz, hnd⟩ := hW
  have hA : DataW.TrodAll enc Try.prog W 0 (fun _ => true) true Try.f4.params.toList args.toList ds p := hA0
  rw [Try.params4] at hA hval
  obtain ⟨v0, vs0, d0, ds0, p0, q0, hargs, rfl, rfl, h0, r0⟩ := trodAll_cons hA
  obtain ⟨v1, vs1, d1, ds1, p1, q1, rfl, rfl, rfl, h1, r1⟩ := trodAll_cons r0
  obtain ⟨rfl, rfl, rfl⟩ := trodAll_nil r1
  obtain rfl : args = #[v0, v1] := by cases args; simp_all
  obtain ⟨rfl, rfl⟩ := trodVars_none hV
  obtain ⟨a0, rfl, rfl, rfl, w0⟩ := open_int Try.underlying3 (hval 0 3 v0 rfl rfl) h0
  obtain ⟨a1, rfl, rfl, rfl, w1⟩ := open_int Try.underlying3 (hval 1 3 v1 rfl rfl) h1
  clear hA0 hval0
  simp only [List.append_nil] at hW'
  refine (walk a0 a1 w0 w1 W).mono fun e W' ⟨he, hg⟩ => ?_
  subst he
  exact ⟨_, rfl, post_of_same (pa := []) (pv := []) hW' (fun _ _ _ => (trodAll_cons_mk (shut_bool Try.underlying4 _) trodAll_mk0)) (fun sp _ => (trodAll_cons_mk (shut_int Try.underlying3 w0) (trodAll_cons_mk (shut_int Try.underlying3 w1) trodAll_mk0))) (fun _ _ => rfl) rfl
    (hg.frame _) hg.2.1 (ok_one (by kernel_rfl) rfl (okWide_bool_mk Try.underlying4 _))⟩

theorem over : Rows.fnDateCompareNoDateBetweenNeighboursRow.holds Try.pinned (OpenSpec.ofChange Rows.fnDateCompareNoDateBetweenNeighboursSpec) :=
  OpenClaim.holds_of_wide 4 Try.f4 rfl rfl rfl rfl rfl rfl rfl ⟨rfl, rfl, rfl, rfl, rfl⟩ rfl rfl rfl rfl rfl (by kernel_rfl) Try.func4 (by kernel_rfl)
    (of_decide_eq_true (by kernel_rfl)) (by unfold Func.isWrapper; first | (rw [if_pos (by decide +kernel)]; kernel_rfl) | (rw [if_neg (by decide +kernel)]; exact ⟨rfl, rfl⟩))
    (fun os started H enc _ => lifted os started H enc)

/-- ████ THE STATEMENT ████ -/
theorem proved : Rows.FnDateCompareNoDateBetweenNeighboursSaid :=
  over
end Go.Proofs.Qxb6629212a.fnDateCompareNoDateBetweenNeighbours
