/-
  THE PROOF OF 'Rows.FnPlainSplitsAtAnyCutSaid': the frame is the guide's shell; the walk over the contracts of Qxb6629092aCutWalk.
-/
import Derived.Test.Qxb6629092aRows
import Derived.WalkKit
import Derived.ProofKit
import Derived.OpenShut
import Derived.ShutString
import Derived.Test.Qxb6629092aCutWalk
namespace Go.Proofs.Qxb6629092a.fnPlainSplitsAtAnyCut
open Go.ChangeShapes Go.WideShapes Go.ChangeAt Go.RowKit
open Go.ChangeMaps (open_string shut_string)
set_option linter.unusedVariables false      -- a walk need not use every 'w<i>' (that an integer argument fits its kind)

theorem own : ownKnob Try.prog.godebug = none := by kernel_rfl

/-! ### STEP 1: THE WALK -/
open Go.Proofs.Qxb6629092a.Plain Go.Proofs.Qxb6629092a.Pw

set_option maxHeartbeats 400000 in
theorem walk_far (a0 : ByteArray) (a1 : Int) (a2 : Int) (w0 : a0.size ≤ maxLen) (w : World) (h : 1048576 < a0.size ∨ 65536 < a0.size ∨ a1 < 1 ∨ (a0.size : Int) ≤ a1) :
    Calls Try.prog 4 #[.string a0, .int .i64 a1, .int .i64 a2] w fun e w' => e = .returned (.bool true) ∧ Grown w w' := by
  unfold maxLen at w0
  by_cases b1 : 1048576 < a0.size
  · clear h
    go_enter Try.func4, Try.ntmps4
    go_wp2
    go_ret
    exact ⟨rfl, Grown.refl _⟩
  by_cases b2 : 65536 < a0.size
  · clear h
    go_enter Try.func4, Try.ntmps4
    go_wp2
    go_ret
    exact ⟨rfl, Grown.refl _⟩
  by_cases b3 : a1 < 1
  · clear h
    go_enter Try.func4, Try.ntmps4
    go_wp2
    go_ret
    exact ⟨rfl, Grown.refl _⟩
  have b4 : (a0.size : Int) ≤ a1 := by omega
  clear h
  go_enter Try.func4, Try.ntmps4
  go_wp2
  go_ret
  exact ⟨rfl, Grown.refl _⟩

set_option maxHeartbeats 400000 in
theorem walk_long (a0 : ByteArray) (k : Nat) (a2 : Int) (h16 : a0.size ≤ 65536) (hk : 1 ≤ k) (hk2 : k < a0.size) (hl : 18 < a0.size) (w : World) :
    Calls Try.prog 4 #[.string a0, .int .i64 k, .int .i64 a2] w fun e w' => e = .returned (.bool true) ∧ Grown w w' := by
  have s0 : a0.size ≤ maxLen := by unfold maxLen; omega
  have sA : (a0.extract 0 k).size ≤ maxLen := by rw [size_lo a0 k (by omega)]; unfold maxLen; omega
  have sB : (a0.extract k a0.size).size ≤ maxLen := by rw [size_hi]; unfold maxLen; omega
  have e1 := pv_no (good_no_len (.inr hl))
  have e2 := pb_no (good_no_len (.inr hl)) a2
  go_enter Try.func4, Try.ntmps4
  go_wp2_with (first | (go_at_call 6; refine (plain_any _ _ _ (by assumption)).mono ?_; rintro e w' ⟨rfl, rfl⟩) | (go_at_call 9; go_in))
  go_ret
  exact ⟨rfl, Grown.refl _⟩

set_option maxHeartbeats 400000 in
theorem walk_badA (a0 : ByteArray) (k : Nat) (a2 : Int) (hk : 1 ≤ k) (hk2 : k < a0.size) (hl : a0.size ≤ 18) (hd : allD a0.data.toList = false) (gA : ∀ m, pb (a0.extract 0 k) m = false) (w : World) :
    Calls Try.prog 4 #[.string a0, .int .i64 k, .int .i64 a2] w fun e w' => e = .returned (.bool true) ∧ Grown w w' := by
  have s0 : a0.size ≤ maxLen := by unfold maxLen; omega
  have sA : (a0.extract 0 k).size ≤ maxLen := by rw [size_lo a0 k (by omega)]; unfold maxLen; omega
  have sB : (a0.extract k a0.size).size ≤ maxLen := by rw [size_hi]; unfold maxLen; omega
  have e1 := pv_no (good_no_dig hd)
  have e2 := pb_no (good_no_dig hd) a2
  go_enter Try.func4, Try.ntmps4
  go_wp2_with (first | (go_at_call 6; refine (plain_any _ _ _ (by assumption)).mono ?_; rintro e w' ⟨rfl, rfl⟩) | (go_at_call 7; refine (digits_any a0 _ s0).mono ?_; rintro e w' ⟨rfl, rfl⟩) | (go_at_call 9; go_in))
  go_ret
  exact ⟨rfl, Grown.refl _⟩

set_option maxHeartbeats 400000 in
theorem walk_badB (a0 : ByteArray) (k : Nat) (a2 : Int) (hk : 1 ≤ k) (hk2 : k < a0.size) (hl : a0.size ≤ 18) (hd : allD a0.data.toList = false) (gA : ∀ m, pb (a0.extract 0 k) m = true ∨ m < 999999999999999999) (gB : ∀ m, pb (a0.extract k a0.size) m = false) (w : World) :
    Calls Try.prog 4 #[.string a0, .int .i64 k, .int .i64 a2] w fun e w' => e = .returned (.bool true) ∧ Grown w w' := by
  have s0 : a0.size ≤ maxLen := by unfold maxLen; omega
  have sA : (a0.extract 0 k).size ≤ maxLen := by rw [size_lo a0 k (by omega)]; unfold maxLen; omega
  have sB : (a0.extract k a0.size).size ≤ maxLen := by rw [size_hi]; unfold maxLen; omega
  have e1 := pv_no (good_no_dig hd)
  have e2 := pb_no (good_no_dig hd) a2
  have eA : pb (a0.extract 0 k) 9223372036854775807 = true := by
    rcases gA 9223372036854775807 with h | h
    · exact h
    · omega
  clear gA
  go_enter Try.func4, Try.ntmps4
  go_wp2_with (first | (go_at_call 6; refine (plain_any _ _ _ (by assumption)).mono ?_; rintro e w' ⟨rfl, rfl⟩) | (go_at_call 7; refine (digits_any a0 _ s0).mono ?_; rintro e w' ⟨rfl, rfl⟩) | (go_at_call 9; go_in))
  go_ret
  exact ⟨rfl, Grown.refl _⟩

/-- all digits: the numbers by letters -/
theorem facts (a0 : ByteArray) (k : Nat) (hk : 1 ≤ k) (hk2 : k < a0.size) (hl : a0.size ≤ 18) (hd : allD a0.data.toList = true) :
    ∃ va vb p v : Int, pv (a0.extract 0 k) = va ∧ pv (a0.extract k a0.size) = vb ∧ pw (a0.size - k) = p ∧ pv a0 = v ∧ va * p + vb = v ∧ 0 ≤ va * p ∧ va * p ≤ 999999999999999999 ∧ 0 ≤ vb ∧ vb ≤ 999999999999999999 ∧ 0 ≤ v ∧ v ≤ 999999999999999999 ∧
      (∀ m, 999999999999999999 ≤ m → pb (a0.extract 0 k) m = true ∧ pb (a0.extract k a0.size) m = true) ∧ ∀ m, pb a0 m = decide (v ≤ m) := by
  have dA : allD (a0.extract 0 k).data.toList = true := by rw [data_lo]; exact allD_take hd k
  have dB : allD (a0.extract k a0.size).data.toList = true := by rw [data_hi]; exact allD_drop hd k
  have zA := size_lo a0 k (by omega)
  have zB := size_hi a0 k
  have gA := good_yes (s := a0.extract 0 k) (by omega) (by omega) dA
  have gB := good_yes (s := a0.extract k a0.size) (by omega) (by omega) dB
  have g0 := good_yes (s := a0) (by omega) (by omega) hd
  have bA := val_18 dA (by rw [len_s]; omega)
  have bB := val_18 dB (by rw [len_s]; omega)
  have b0 := val_18 hd (by rw [len_s]; omega)
  have hc := val_cut a0.data.toList k
  rw [len_s, ← data_lo, ← data_hi] at hc
  have hp := pw_pos (a0.size - k)
  have hm : 0 ≤ val (a0.extract 0 k).data.toList * pw (a0.size - k) := Int.mul_nonneg bA.1 (by omega)
  refine ⟨_, _, _, _, pv_yes gA, pv_yes gB, rfl, pv_yes g0, hc.symm, hm, by omega, bB.1, bB.2, b0.1, b0.2, fun m h => ⟨?_, ?_⟩, fun m => pb_yes g0 m⟩
  · rw [pb_yes gA]; exact decide_eq_true (by omega)
  · rw [pb_yes gB]; exact decide_eq_true (by omega)

set_option maxHeartbeats 400000 in
theorem walk_good (a0 : ByteArray) (k : Nat) (a2 : Int) (hk : 1 ≤ k) (hk2 : k < a0.size) (hl : a0.size ≤ 18) (hd : allD a0.data.toList = true) (w : World) :
    Calls Try.prog 4 #[.string a0, .int .i64 k, .int .i64 a2] w fun e w' => e = .returned (.bool true) ∧ Grown w w' := by
  obtain ⟨va, vb, p, v, eA, eB, ep, e0, hsum, h1, h2, h3, h4, h5, h6, hT, hbv⟩ := facts a0 k hk hk2 hl hd
  have s0 : a0.size ≤ maxLen := by unfold maxLen; omega
  have sA : (a0.extract 0 k).size ≤ maxLen := by rw [size_lo a0 k (by omega)]; unfold maxLen; omega
  have sB : (a0.extract k a0.size).size ≤ maxLen := by rw [size_hi]; unfold maxLen; omega
  have tA := (hT 9223372036854775807 (by omega)).1
  have tB := (hT 9223372036854775807 (by omega)).2
  have tv := hbv a2
  clear hT hbv
  go_enter Try.func4, Try.ntmps4
  go_wp2_with (first | (go_at_call 6; refine (plain_any _ _ _ (by assumption)).mono ?_; rintro e w' ⟨rfl, rfl⟩) | (go_at_call 7; refine (digits_any a0 _ s0).mono ?_; rintro e w' ⟨rfl, rfl⟩) | (go_at_call 10; refine (pow_at _ (a0.size - k) (by omega) (by omega) _).mono ?_; rintro e w' ⟨rfl, rfl⟩) | (go_at_call 9; go_in))
  go_ret
  exact ⟨rfl, Grown.refl _⟩

theorem walk (a0 : ByteArray) (a1 : Int) (a2 : Int) (w0 : a0.size ≤ maxLen) (w1 : (Lit.int .i64 a1).wf = true) (w2 : (Lit.int .i64 a2).wf = true) (w : World) :
    Calls Try.prog 4 #[.string a0, .int .i64 a1, .int .i64 a2] w fun e w' => e = .returned (.bool true) ∧ Grown w w' := by
  by_cases h : 1048576 < a0.size ∨ 65536 < a0.size ∨ a1 < 1 ∨ (a0.size : Int) ≤ a1
  · exact walk_far a0 a1 a2 w0 w h
  obtain ⟨k, rfl⟩ : ∃ k : Nat, a1 = k := ⟨a1.toNat, by omega⟩
  by_cases hl : 18 < a0.size
  · exact walk_long a0 k a2 (by omega) (by omega) (by omega) hl w
  cases hd : allD a0.data.toList with
  | true => exact walk_good a0 k a2 (by omega) (by omega) (by omega) hd w
  | false =>
    cases hA : good (a0.extract 0 k) with
    | false => exact walk_badA a0 k a2 (by omega) (by omega) (by omega) hd (pb_no hA) w
    | true =>
      have hB : good (a0.extract k a0.size) = false := by
        rcases split_bad a0 k hd with h' | h'
        · rw [hA] at h'; cases h'
        · exact h'
      refine walk_badB a0 k a2 (by omega) (by omega) (by omega) hd (fun m => ?_) (pb_no hB) w
      by_cases hm : m < 999999999999999999
      · exact .inr hm
      · left
        have hz := size_lo a0 k (by omega)
        have hdA : allD (a0.extract 0 k).data.toList = true := by
          cases hx : allD (a0.extract 0 k).data.toList with
          | true => rfl
          | false => rw [good_no_dig hx] at hA; cases hA
        have hb := val_18 hdA (by rw [len_s]; omega)
        rw [pb_yes hA]
        exact decide_eq_true (by omega)

/-! ### THE ROW's STEP: WRITTEN OUT: LEAVE IT -/
set_option maxRecDepth 100000 in
theorem lifted (os : Os) (started : os.Started) (H : Type) (enc : TypeId × Value → H) :
    ReturnsInHanded {} Try.checked os 4 .any (Rows.fnPlainSplitsAtAnyCutSpec.pre6 enc Try.prog Try.f4 Rows.fnPlainSplitsAtAnyCutRow.domain false) (Rows.fnPlainSplitsAtAnyCutSpec.post enc Try.prog Try.f4 false true false false) := by
  refine returnsInHanded_of_change (C := Try.checked) own started (by kernel_rfl) Try.func4
    (ChangeSpec.witness6 (enc := enc) (C := Try.checked) false ⟨#[], #[.string ByteArray.empty, .int .i64 0, .int .i64 0], []⟩ 8 (by kernel_rfl) (by kernel_rfl) (by kernel_rfl) (by kernel_rfl)) ?_
  intro W base args ds gs before hval0 hW hcnd _
  have hval : ∀ (j : Nat) t v, Try.f4.params[j]? = some t → args[j]? = some v → Value.okWide Try.prog W .any base t v := hval0
  have hW' := hW
  obtain ⟨p, q, hA0, hV, rfl, hfz, hnd⟩ := hW
  have hA : DataW.TrodAll enc Try.prog W 0 (fun _ => true) true Try.f4.params.toList args.toList ds p := hA0
  rw [Try.params4] at hA hval
  obtain ⟨v0, vs0, d0, ds0, p0, q0, hargs, rfl, rfl, h0, r0⟩ := trodAll_cons hA
  obtain ⟨v1, vs1, d1, ds1, p1, q1, rfl, rfl, rfl, h1, r1⟩ := trodAll_cons r0
  obtain ⟨v2, vs2, d2, ds2, p2, q2, rfl, rfl, rfl, h2, r2⟩ := trodAll_cons r1
  obtain ⟨rfl, rfl, rfl⟩ := trodAll_nil r2
  obtain rfl : args = #[v0, v1, v2] := by cases args; simp_all
  obtain ⟨rfl, rfl⟩ := trodVars_none hV
  obtain ⟨a0, rfl, rfl, rfl, w0⟩ := open_string Try.underlying9 (hval 0 9 v0 rfl rfl) h0
  obtain ⟨a1, rfl, rfl, rfl, w1⟩ := open_int Try.underlying3 (hval 1 3 v1 rfl rfl) h1
  obtain ⟨a2, rfl, rfl, rfl, w2⟩ := open_int Try.underlying2 (hval 2 2 v2 rfl rfl) h2
  clear hA0 hval0
  simp only [List.append_nil] at hW'
  refine (walk a0 a1 a2 w0 w1 w2 W).mono fun e W' ⟨he, hg⟩ => ?_
  subst he
  exact ⟨_, rfl, post_of_same (pa := []) (pv := []) hW' (fun _ _ _ => (trodAll_cons_mk (shut_bool Try.underlying4 _) trodAll_mk0)) (fun sp _ => (trodAll_cons_mk (shut_string Try.underlying9 w0) (trodAll_cons_mk (shut_int Try.underlying3 w1) (trodAll_cons_mk (shut_int Try.underlying2 w2) trodAll_mk0)))) (fun _ _ => rfl) rfl
    (hg.frame _) hg.2.1 (ok_one (by kernel_rfl) rfl (okWide_bool_mk Try.underlying4 _))⟩

theorem over : Rows.fnPlainSplitsAtAnyCutRow.holds Try.pinned (OpenSpec.ofChange Rows.fnPlainSplitsAtAnyCutSpec) :=
  OpenClaim.holds_of_wide 4 Try.f4 rfl rfl rfl rfl rfl rfl rfl ⟨rfl, rfl, rfl, rfl, rfl⟩ rfl rfl rfl rfl rfl (by kernel_rfl) Try.func4 (by kernel_rfl)
    (of_decide_eq_true (by kernel_rfl)) (by unfold Func.isWrapper; first | (rw [if_pos (by decide +kernel)]; kernel_rfl) | (rw [if_neg (by decide +kernel)]; exact ⟨rfl, rfl⟩))
    (fun os started H enc _ => lifted os started H enc)

/-- ████ THE STATEMENT ████ -/
theorem proved : Rows.FnPlainSplitsAtAnyCutSaid :=
  over
end Go.Proofs.Qxb6629092a.fnPlainSplitsAtAnyCut
