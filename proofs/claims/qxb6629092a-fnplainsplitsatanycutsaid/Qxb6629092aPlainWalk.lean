import Derived.Test.Qxb6629092aRows
import Derived.Test.Qxb6629092aPlain
import Derived.WalkKit
import Derived.WalkSpells
import Derived.WalkLawsBesides
namespace Go.Proofs.Qxb6629092a.Pw
open Go.RowKit
open Go.Proofs.Qxb6629092a.Plain

theorem ret_bool {a b : Bool} (h : a = b) : Ending.returned (.bool a) = .returned (.bool b) := by rw [h]
theorem ret_two {a b : Int} {c d : Bool} (h : a = b) (h2 : c = d) : Ending.returned (.tuple #[.int .i64 a, .bool c]) = .returned (.tuple #[.int .i64 b, .bool d]) := by rw [h, h2]
theorem len_s (s : ByteArray) : s.data.toList.length = s.size := by rw [Array.length_toList]; rfl
theorem ne_of_pos {s : ByteArray} (h : 0 < s.size) : s.toList.isEmpty = false := by
  rw [ByteArray.toList_eq, List.isEmpty_eq_false_iff]
  intro e
  have := len_s s
  rw [e] at this
  simp at this
  omega
theorem allD_no {s : ByteArray} {k : Nat} (hk : k < s.size) (h : isD s[k] = false) : allD s.data.toList = false :=
  allD_false_of (k := k) (by rw [len_s]; exact hk) h
theorem allD_step {s : ByteArray} {k : Nat} (hk : k < s.size) (h : isD s[k] = true) (ha : allD (s.data.toList.take k) = true) : allD (s.data.toList.take (k + 1)) = true := by
  rw [take_snoc _ k (by rw [len_s]; exact hk), allD_snoc, ha]
  exact h
theorem val_step {s : ByteArray} {k : Nat} (hk : k < s.size) : val (s.data.toList.take (k + 1)) = val (s.data.toList.take k) * 10 + ((s[k].toNat : Int) - 48) :=
  val_take_succ _ k (by rw [len_s]; exact hk)
theorem take_all {s : ByteArray} {k : Nat} (hk : ¬ k < s.size) : s.data.toList.take k = s.data.toList :=
  List.take_of_length_le (by rw [len_s]; omega)
theorem allD_at {s : ByteArray} (h : allD s.data.toList = true) {k : Nat} (hk : k < s.size) : 48 ≤ (s[k].toNat : Int) ∧ (s[k].toNat : Int) ≤ 57 :=
  isD_true (allD_get h k (by rw [len_s]; exact hk))

set_option maxHeartbeats 400000 in
theorem digits_any (s : ByteArray) (w : World) (hs : s.size ≤ maxLen) :
    Calls Try.prog 7 #[.string s] w fun e w' => e = .returned (.bool (allD s.data.toList)) ∧ w' = w := by
  unfold maxLen at hs
  go_enter Try.func7, Try.ntmps7
  go_wp2
  go_loop [3] (fun i => ∃ k : Nat, k ≤ s.size ∧ i = .int .i64 k ∧ allD (s.data.toList.take k) = true) (fun i => s.size - (intOf i).toNat)
  case atStart => exact ⟨0, Nat.zero_le _, rfl, rfl⟩
  case round =>
    obtain ⟨k, hk, rfl, ha⟩ := hrel
    have HA : Hid (allD (s.data.toList.take k) = true) := ha
    clear ha
    by_cases hlt : k < s.size
    · by_cases h1 : (s[k].toNat : Int) < 48
      · go_wp2
        go_ret
        exact ⟨ret_bool (allD_no hlt (isD_lo h1)).symm, rfl⟩
      · by_cases h2 : 57 < (s[k].toNat : Int)
        · go_wp2
          go_ret
          exact ⟨ret_bool (allD_no hlt (isD_hi h2)).symm, rfl⟩
        · go_wp2
          go_round
          case rel => exact ⟨k + 1, by omega, by go_num, allD_step hlt (isD_mk (by omega) (by omega)) HA.out⟩
          case measure => simp [intOf]; omega
    · go_wp2
      go_ret
      exact ⟨ret_bool (by have := HA.out; rw [take_all hlt] at this; exact this.symm), rfl⟩

set_option maxHeartbeats 400000 in
theorem plain_out (s : ByteArray) (m : Int) (w : World) (hs : s.size ≤ maxLen) (h : s.size = 0 ∨ 18 < s.size) :
    Calls Try.prog 6 #[.string s, .int .i64 m] w fun e w' => e = .returned (.tuple #[.int .i64 0, .bool false]) ∧ w' = w := by
  unfold maxLen at hs
  rcases h with h | h
  · have h2 : s = ByteArray.empty := by
      apply ByteArray.ext; apply Array.eq_empty_of_size_eq_zero; exact h
    subst h2
    go_enter Try.func6, Try.ntmps6
    go_wp2
    go_ret2
    exact ⟨rfl, rfl⟩
  · have h2 : s.toList.isEmpty = false := ne_of_pos (by omega)
    go_enter Try.func6, Try.ntmps6
    go_wp2
    go_ret2
    exact ⟨rfl, rfl⟩

theorem val_lim {s : ByteArray} {k : Nat} (hk : k ≤ 17) (h : allD (s.data.toList.take k) = true) : 0 ≤ val (s.data.toList.take k) ∧ val (s.data.toList.take k) ≤ 99999999999999999 :=
  val_17 h (by rw [List.length_take]; omega)

set_option maxHeartbeats 400000 in
theorem plain_bad (s : ByteArray) (m : Int) (w : World) (h0 : 0 < s.size) (h18 : s.size ≤ 18) (hbad : allD s.data.toList = false) :
    Calls Try.prog 6 #[.string s, .int .i64 m] w fun e w' => e = .returned (.tuple #[.int .i64 0, .bool false]) ∧ w' = w := by
  have hne := ne_of_pos h0
  have HB : Hid (allD s.data.toList = false) := hbad
  clear hbad
  go_enter Try.func6, Try.ntmps6
  go_wp2
  go_loop [6, 7] (fun n i => ∃ k : Nat, k ≤ s.size ∧ i = .int .i64 k ∧ allD (s.data.toList.take k) = true ∧ n = .int .i64 (val (s.data.toList.take k))) (fun _ i => s.size - (intOf i).toNat)
  case atStart => exact ⟨0, Nat.zero_le _, rfl, rfl, rfl⟩
  case round =>
    obtain ⟨k, hk, rfl, ha, rfl⟩ := hrel
    by_cases hlt : k < s.size
    · have hv := val_lim (by omega) ha
      have HA : Hid (allD (s.data.toList.take k) = true) := ha
      clear ha
      by_cases h1 : (s[k].toNat : Int) < 48
      · go_wp2
        go_ret2
        exact ⟨rfl, rfl⟩
      · by_cases h2 : 57 < (s[k].toNat : Int)
        · go_wp2
          go_ret2
          exact ⟨rfl, rfl⟩
        · have HS : Hid (val (s.data.toList.take (k + 1)) = val (s.data.toList.take k) * 10 + ((s[k].toNat : Int) - 48)) := val_step hlt
          go_wp2
          go_round
          case rel => exact ⟨k + 1, by omega, by go_num, allD_step hlt (isD_mk (by omega) (by omega)) HA.out, by rw [HS.out]⟩
          case measure => simp [intOf]; omega
    · exfalso
      rw [take_all hlt, HB.out] at ha
      cases ha

set_option maxHeartbeats 400000 in
theorem plain_ok (s : ByteArray) (m : Int) (w : World) (h0 : 0 < s.size) (h18 : s.size ≤ 18) (hall : allD s.data.toList = true) :
    Calls Try.prog 6 #[.string s, .int .i64 m] w fun e w' => e = .returned (.tuple #[.int .i64 (val s.data.toList), .bool (decide (val s.data.toList ≤ m))]) ∧ w' = w := by
  have hne := ne_of_pos h0
  have HB : Hid (allD s.data.toList = true) := hall
  clear hall
  go_enter Try.func6, Try.ntmps6
  go_wp2
  go_loop [6, 7] (fun n i => ∃ k : Nat, k ≤ s.size ∧ i = .int .i64 k ∧ n = .int .i64 (val (s.data.toList.take k))) (fun _ i => s.size - (intOf i).toNat)
  case atStart => exact ⟨0, Nat.zero_le _, rfl, rfl⟩
  case round =>
    obtain ⟨k, hk, rfl, rfl⟩ := hrel
    by_cases hlt : k < s.size
    · have hv := val_lim (by omega) (allD_take HB.out k)
      have hd := allD_at HB.out hlt
      have HS : Hid (val (s.data.toList.take (k + 1)) = val (s.data.toList.take k) * 10 + ((s[k].toNat : Int) - 48)) := val_step hlt
      go_wp2
      go_round
      case rel => exact ⟨k + 1, by omega, by go_num, by rw [HS.out]⟩
      case measure => simp [intOf]; omega
    · go_wp2
      go_ret2
      exact ⟨ret_two (by rw [take_all hlt]) (by rw [take_all hlt]), rfl⟩

set_option maxHeartbeats 400000 in
theorem pow_any (e : Nat) (he : e ≤ 18) (w : World) :
    Calls Try.prog 10 #[.int .i64 e] w fun r w' => r = .returned (.int .i64 (pw e)) ∧ w' = w := by
  go_enter Try.func10, Try.ntmps10
  go_wp2
  go_loop [3, 4] (fun n i => ∃ k : Nat, k ≤ e ∧ i = .int .i64 k ∧ n = .int .i64 (pw k)) (fun _ i => e - (intOf i).toNat)
  case atStart => exact ⟨0, Nat.zero_le _, rfl, rfl⟩
  case round =>
    obtain ⟨k, hk, rfl, rfl⟩ := hrel
    by_cases hlt : k < e
    · have h1 := pw_pos k
      have h2 : pw k ≤ 100000000000000000 := by have := pw_mono (show k ≤ 17 by omega); rw [pw17] at this; exact this
      have h3 : k < 18 := by omega
      have HS : Hid (pw (k + 1) = pw k * 10) := pw_succ k
      go_wp2
      go_round
      case rel => exact ⟨k + 1, by omega, by go_num, by rw [HS.out]⟩
      case measure => simp [intOf]; omega
    · have hke : k = e := by omega
      subst hke
      go_wp2
      go_ret
      exact ⟨rfl, rfl⟩

end Go.Proofs.Qxb6629092a.Pw
