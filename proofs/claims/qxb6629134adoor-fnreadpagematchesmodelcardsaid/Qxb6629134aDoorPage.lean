import Derived.Test.Qxb6629134aDoorIndep
import Derived.Test.Qxb6629134aDoorModel
namespace Go.Proofs.Qxb6629134aDoor
open Go.RowKit Go.Maps

def PagePost (s : ByteArray) (w : World) (e : Ending) (w' : World) : Prop :=
  (∃ n : Int, 1 ≤ n ∧ Lib.parseIntB 32 s.data.toList = .ok n ∧ e = .returned (.tuple #[.int .i64 n, .bool true]) ∧ w' = w) ∨ (Refused s ∧ e = .returned (.tuple #[.int .i64 0, .bool false]) ∧ w' = w)

theorem len_s (s : ByteArray) : s.data.toList.length = s.size := by rw [Array.length_toList]; rfl

/-- refused: no digits, or the model's loop ends at none or below 1 -/
theorem refused_of {s : ByteArray} (hpos : 0 < s.size) (h : tailOf s.data.toList = [] ∨ ∀ n, runI 0 (tailOf s.data.toList) = some n → n < 1) : Refused s := by
  refine ⟨hpos, fun v hv => ?_⟩
  by_cases h1 : 1 ≤ v
  · have h2 := (model_iff _ v h1).1 hv
    rcases h with h | h
    · exact absurd h h2.1
    · exact h v h2.2
  · omega

theorem drop_at {s : ByteArray} {k : Nat} (h : k < s.size) : s.data.toList.drop k = s[k] :: s.data.toList.drop (k + 1) :=
  List.drop_eq_getElem_cons (by rw [len_s]; exact h)

theorem tail_plus {s : ByteArray} (h0 : 0 < s.size) (h : s[0].toNat = 43) : tailOf s.data.toList = s.data.toList.drop 1 := by
  have e := drop_at h0
  rw [List.drop_zero] at e
  conv => lhs; rw [e]
  rw [tailOf, if_pos h]
theorem tail_plain {s : ByteArray} (h0 : 0 < s.size) (h : ¬ s[0].toNat = 43) : tailOf s.data.toList = s.data.toList.drop 0 := by
  have e := drop_at h0
  rw [List.drop_zero] at e ⊢
  conv => lhs; rw [e]
  rw [tailOf, if_neg h]
  exact e.symm

set_option maxHeartbeats 1000000 in
theorem page_any (s : ByteArray) (w : World) (hpos : 0 < s.size) (hmax : s.size ≤ 1048576) :
    Calls Tryd.prog 10 #[.string s] w fun e w' => PagePost s w e w' := by
  obtain ⟨k0, hk0, htail, hcase⟩ : ∃ k0 : Nat, k0 ≤ 1 ∧ tailOf s.data.toList = s.data.toList.drop k0 ∧ ((k0 = 1 ∧ ((s[0].toNat : Int) == 43) = true) ∨ (k0 = 0 ∧ ((s[0].toNat : Int) == 43) = false)) := by
    by_cases h : s[0].toNat = 43
    · exact ⟨1, by omega, tail_plus hpos h, .inl ⟨rfl, by rw [beq_iff_eq]; omega⟩⟩
    · exact ⟨0, by omega, tail_plain hpos h, .inr ⟨rfl, by rw [beq_eq_false_iff_ne]; omega⟩⟩
  have HT := hid htail
  clear htail
  by_cases hlong : s.size ≤ k0
  · rcases hcase with ⟨rfl, hb⟩ | ⟨rfl, hb⟩
    · go_enter Tryd.func10, Tryd.ntmps10
      go_wp2
      go_ret2
      refine .inr ⟨refused_of hpos (.inl ?_), rfl, rfl⟩
      rw [HT.out]
      exact List.drop_eq_nil_of_le (by rw [len_s]; exact hlong)
    · omega
  have HN : Hid (tailOf s.data.toList ≠ []) := by
    show tailOf s.data.toList ≠ []
    rw [HT.out, drop_at (by omega)]
    simp
  have hne : ¬ s = ByteArray.empty := by
    rintro rfl
    exact absurd hpos (by decide)
  rcases hcase with ⟨rfl, hb⟩ | ⟨rfl, hb⟩
  all_goals
    go_enter Tryd.func10, Tryd.ntmps10
    go_wp2
    go_loop [4, 5] (fun i n => ∃ (k : Nat) (a : Int), k ≤ s.size ∧ i = .int .i64 (k : Int) ∧ n = .int .i64 a ∧ 0 ≤ a ∧ a ≤ 2147483647 ∧ runI a (s.data.toList.drop k) = runI 0 (tailOf s.data.toList)) (fun i _ => s.size - (intOf i).toNat)
    case atStart => first | exact ⟨1, 0, by omega, rfl, rfl, by omega, by omega, by rw [HT.out]⟩ | exact ⟨0, 0, by omega, rfl, rfl, by omega, by omega, by rw [HT.out]⟩
    case round =>
      obtain ⟨k, a, hk, rfl, rfl, ha0, ha1, hrun⟩ := hrel
      by_cases hlt : k < s.size
      · rw [drop_at hlt] at hrun
        have HR := hid hrun
        clear hrun
        by_cases h1 : (s[k].toNat : Int) < 48
        · go_wp2
          go_ret2
          exact .inr ⟨refused_of hpos (.inr (fun n hn => by rw [← HR.out, runI_bad (.inl h1)] at hn; cases hn)), rfl, rfl⟩
        · by_cases h2 : 57 < (s[k].toNat : Int)
          · go_wp2
            go_ret2
            exact .inr ⟨refused_of hpos (.inr (fun n hn => by rw [← HR.out, runI_bad (.inr h2)] at hn; cases hn)), rfl, rfl⟩
          · by_cases h3 : 2147483647 < a * 10 + ((s[k].toNat : Int) - 48)
            · go_wp2
              go_ret2
              exact .inr ⟨refused_of hpos (.inr (fun n hn => by rw [← HR.out, runI_big (by omega) h3] at hn; cases hn)), rfl, rfl⟩
            · go_wp2
              go_round
              case rel => exact ⟨k + 1, _, by omega, by go_num, rfl, by omega, by omega, by rw [← HR.out, runI_step (by omega) h3]⟩
              case measure => simp [intOf]; omega
      · rw [List.drop_eq_nil_of_le (by rw [len_s]; omega), runI_end] at hrun
        have HR := hid hrun
        clear hrun
        by_cases h1 : a < 1
        · go_wp2
          go_ret2
          exact .inr ⟨refused_of hpos (.inr (fun n hn => by rw [← HR.out] at hn; cases hn; exact h1)), rfl, rfl⟩
        · go_wp2
          go_ret2
          exact .inl ⟨a, by omega, (model_iff _ a (by omega)).2 ⟨HN.out, HR.out.symm⟩, rfl, rfl⟩

end Go.Proofs.Qxb6629134aDoor
