/-
  THE PROOF OF 'Rows.FnPlainIsPaddedDecimalSaid': the frame is the guide's shell; the walk over the contracts of Qxb6629092aPlainWalk, Qxb6629092aPadWalk.
-/
import Derived.Test.Qxb6629092aRows
import Derived.WalkKit
import Derived.ProofKit
import Derived.OpenShut
import Derived.ShutString
import Derived.Below
import Derived.Carry
import Derived.Test.Qxb6629092aPlainWalk
import Derived.Test.Qxb6629092aPadWalk
namespace Go.Proofs.Qxb6629092a.fnPlainIsPaddedDecimal
open Go.ChangeShapes Go.WideShapes Go.ChangeAt Go.RowKit
open Go.ChangeMaps (open_string shut_string)
set_option linter.unusedVariables false      -- a walk need not use every 'w<i>' (that an integer argument fits its kind)

theorem own : ownKnob Try.prog.godebug = none := by kernel_rfl

/-! ### STEP 1: THE WALK -/
open Go.Proofs.Qxb6629092a.Plain Go.Proofs.Qxb6629092a.Pw

theorem sz_no {s : ByteArray} (h : 0 < s.size) : ((s.size : Int) == 0) = false := by
  rw [beq_eq_false_iff_ne]; omega

set_option maxHeartbeats 400000 in
theorem walk (a0 : ByteArray) (a1 : Int) (w0 : a0.size ≤ maxLen) (w1 : (Lit.int .i64 a1).wf = true) (w : World) :
    Calls Try.prog 3 #[.string a0, .int .i64 a1] w fun e w' => e = .returned (.bool true) ∧ Below w.heap.size w w' := by
  have hm := w0
  unfold maxLen at hm
  by_cases b1 : 1048576 < a0.size
  · go_enter Try.func3, Try.ntmps3
    go_wp2
    go_ret
    exact ⟨rfl, Below.refl _ _⟩
  by_cases b2 : 65536 < a0.size
  · go_enter Try.func3, Try.ntmps3
    go_wp2
    go_ret
    exact ⟨rfl, Below.refl _ _⟩
  by_cases b3 : a0.size = 0 ∨ 18 < a0.size
  · have H3 : Hid (a0.size = 0 ∨ 18 < a0.size) := b3
    rcases b3 with b3 | b3
    · go_enter Try.func3, Try.ntmps3
      go_wp2_with (first | (go_at_call 6; refine (plain_out a0 a1 _ w0 H3.out).mono ?_; rintro e w' ⟨rfl, rfl⟩) | (go_at_call 5; go_in))
      go_ret
      exact ⟨rfl, Below.refl _ _⟩
    · have hz := sz_no (show 0 < a0.size by omega)
      go_enter Try.func3, Try.ntmps3
      go_wp2_with (first | (go_at_call 6; refine (plain_out a0 a1 _ w0 H3.out).mono ?_; rintro e w' ⟨rfl, rfl⟩) | (go_at_call 5; go_in))
      go_ret
      exact ⟨rfl, Below.refl _ _⟩
  have h0 : 0 < a0.size := by omega
  have h18 : a0.size ≤ 18 := by omega
  have hz := sz_no h0
  clear b1 b2 b3
  cases hd : allD a0.data.toList with
  | false =>
    have HD : Hid (allD a0.data.toList = false) := hd
    go_enter Try.func3, Try.ntmps3
    go_wp2_with (first | (go_at_call 6; refine (plain_bad a0 a1 _ h0 h18 HD.out).mono ?_; rintro e w' ⟨rfl, rfl⟩) | (go_at_call 7; refine (digits_any a0 _ w0).mono ?_; rintro e w' ⟨rfl, rfl⟩) | (go_at_call 5; go_in))
    go_ret
    exact ⟨rfl, Below.refl _ _⟩
  | true =>
    have HD : Hid (allD a0.data.toList = true) := hd
    have hv := val_18 hd (by rw [len_s]; exact h18)
    go_enter Try.func3, Try.ntmps3
    go_wp2_with (first | (go_at_call 6; refine (plain_ok a0 a1 _ h0 h18 HD.out).mono ?_; rintro e w' ⟨rfl, rfl⟩) | (go_at_call 7; refine (digits_any a0 _ w0).mono ?_; rintro e w' ⟨rfl, rfl⟩) | (go_at_call 8; refine (pad_any a0 _ h0 h18 HD.out).mono ?_; rintro e w' ⟨rfl, hbel⟩) | (go_at_call 5; go_in))
    go_ret
    exact ⟨rfl, hbel⟩

/-! ### THE ROW's STEP: WRITTEN OUT: LEAVE IT -/
set_option maxRecDepth 100000 in
theorem lifted (os : Os) (started : os.Started) (H : Type) (enc : TypeId × Value → H) :
    ReturnsInHanded {} Try.checked os 3 .any (Rows.fnPlainIsPaddedDecimalSpec.pre6 enc Try.prog Try.f3 Rows.fnPlainIsPaddedDecimalRow.domain false) (Rows.fnPlainIsPaddedDecimalSpec.post enc Try.prog Try.f3 false true false false) := by
  refine returnsInHanded_of_change (C := Try.checked) own started (by kernel_rfl) Try.func3
    (ChangeSpec.witness6 (enc := enc) (C := Try.checked) false ⟨#[], #[.string ByteArray.empty, .int .i64 0], []⟩ 8 (by kernel_rfl) (by kernel_rfl) (by kernel_rfl) (by kernel_rfl)) ?_
  intro W base args ds gs before hval0 hW hcnd _
  have hval : ∀ (j : Nat) t v, Try.f3.params[j]? = some t → args[j]? = some v → Value.okWide Try.prog W .any base t v := hval0
  have hW' := hW
  obtain ⟨p, q, hA0, hV, rfl, hfz, hnd⟩ := hW
  have hA : DataW.TrodAll enc Try.prog W 0 (fun _ => true) true Try.f3.params.toList args.toList ds p := hA0
  rw [Try.params3] at hA hval
  obtain ⟨v0, vs0, d0, ds0, p0, q0, hargs, rfl, rfl, h0, r0⟩ := trodAll_cons hA
  obtain ⟨v1, vs1, d1, ds1, p1, q1, rfl, rfl, rfl, h1, r1⟩ := trodAll_cons r0
  obtain ⟨rfl, rfl, rfl⟩ := trodAll_nil r1
  obtain rfl : args = #[v0, v1] := by cases args; simp_all
  obtain ⟨rfl, rfl⟩ := trodVars_none hV
  obtain ⟨a0, rfl, rfl, rfl, w0⟩ := open_string Try.underlying9 (hval 0 9 v0 rfl rfl) h0
  obtain ⟨a1, rfl, rfl, rfl, w1⟩ := open_int Try.underlying2 (hval 1 2 v1 rfl rfl) h1
  clear hA0 hval0
  simp only [List.append_nil] at hW'
  refine (walk a0 a1 w0 w1 W).mono fun e W' ⟨he, bel⟩ => ?_
  subst he
  exact ⟨_, rfl, _, _, _, [], [], [], hW', trodAll_mk1 (shut_bool Try.underlying4 _), (trodAll_cons_mk (shut_string Try.underlying9 w0) (trodAll_cons_mk (shut_int Try.underlying2 w1) trodAll_mk0)), rfl, bel.frame _, fun h => by cases h⟩

theorem over : Rows.fnPlainIsPaddedDecimalRow.holds Try.pinned (OpenSpec.ofChange Rows.fnPlainIsPaddedDecimalSpec) :=
  OpenClaim.holds_of_wide 3 Try.f3 rfl rfl rfl rfl rfl rfl rfl ⟨rfl, rfl, rfl, rfl, rfl⟩ rfl rfl rfl rfl rfl (by kernel_rfl) Try.func3 (by kernel_rfl)
    (of_decide_eq_true (by kernel_rfl)) (by unfold Func.isWrapper; first | (rw [if_pos (by decide +kernel)]; kernel_rfl) | (rw [if_neg (by decide +kernel)]; exact ⟨rfl, rfl⟩))
    (fun os started H enc _ => lifted os started H enc)

/-- ████ THE STATEMENT ████ -/
theorem proved : Rows.FnPlainIsPaddedDecimalSaid :=
  over
end Go.Proofs.Qxb6629092a.fnPlainIsPaddedDecimal
