import Derived.Test.Qxb6629134aDoorZZ
namespace Go.Proofs.Qxb6629134aDoor
open Go.RowKit Go.Maps

/-- 'the slice at ao reads as the strings l' -/
def RdS (w : World) (ao : Option Addr) (l : List ByteArray) : Prop :=
  l = [] ∨ ∃ b off, ao = some ⟨b, off, none⟩ ∧ b < w.heap.size ∧ ∀ k (h : k < l.length), w.cell? ⟨b, off + k, none⟩ = some (.string l[k])

theorem RdS.elem {w : World} {ao : Option Addr} {l : List ByteArray} (h : RdS w ao l) {k : Nat} (hk : k < l.length) : ∃ b off, ao = some ⟨b, off, none⟩ ∧ w.cell? ⟨b, off + k, none⟩ = some (.string l[k]) := by
  rcases h with rfl | ⟨b, off, e, _, hc⟩
  · simp at hk
  · exact ⟨b, off, e, hc k hk⟩

theorem RdS.first {w : World} {ao : Option Addr} {l : List ByteArray} (h : RdS w ao l) (c : Nat) : FirstIs w (.slice ao l.length c) (l.headD ByteArray.empty) := by
  rcases h with rfl | ⟨b, off, rfl, hlt, hc⟩
  · exact ⟨ao, 0, c, rfl, .inl ⟨rfl, rfl⟩⟩
  · cases l with
    | nil => exact ⟨_, 0, c, rfl, .inl ⟨rfl, rfl⟩⟩
    | cons s r => exact ⟨_, _, c, rfl, .inr ⟨by simp, b, off, rfl, hlt, hc 0 (by simp)⟩⟩

theorem small_snoc {l : List ByteArray} {k : Nat} (h : ∀ s ∈ l.take k, s.size ≤ 1048576) (hk : k < l.length) (h1 : l[k].size ≤ 1048576) : ∀ s ∈ l.take (k + 1), s.size ≤ 1048576 := by
  rw [List.take_succ_eq_append_getElem hk]
  intro s hs
  rcases List.mem_append.1 hs with hs | hs
  · exact h s hs
  · simp at hs; subst hs; exact h1

def BytesPost (l1 l2 : List ByteArray) (w : World) (e : Ending) (w' : World) : Prop :=
  (e = .returned (.bool false) ∧ w' = w) ∨ (e = .returned (.bool true) ∧ (∀ s ∈ l1, s.size ≤ 1048576) ∧ (∀ s ∈ l2, s.size ≤ 1048576) ∧ w' = w)

set_option maxHeartbeats 1000000 in
theorem bytes12 (a0 a1 : Option Addr) (c0 c1 : Nat) (l1 l2 : List ByteArray) (w : World) (h1 : RdS w a0 l1) (h2 : RdS w a1 l2) (n1 : l1.length ≤ maxLen) (n2 : l2.length ≤ maxLen) :
    Calls Tryd.prog 12 #[.slice a0 l1.length c0, .slice a1 l2.length c1] w fun e w' => BytesPost l1 l2 w e w' := by
  unfold maxLen at n1 n2
  by_cases b1 : 1048576 < l1.length
  · go_enter Tryd.func12, Tryd.ntmps12
    go_wp2
    go_ret
    exact .inl ⟨rfl, rfl⟩
  go_enter Tryd.func12, Tryd.ntmps12
  go_wp2
  go_loop [5, 6] (fun z i => ∃ (k : Nat) (t : Int), k ≤ l1.length ∧ i = .int .i64 (k : Int) ∧ z = .int .i64 t ∧ 0 ≤ t ∧ t ≤ 1048576 ∧ ∀ s ∈ l1.take k, s.size ≤ 1048576) (fun _ i => l1.length - (intOf i).toNat)
  case atStart => exact ⟨0, _, Nat.zero_le _, rfl, rfl, by omega, by omega, fun s hs => by simp at hs⟩
  case round =>
    obtain ⟨k, t, hk, rfl, rfl, ht0, ht1, hsm⟩ := hrel
    have HSM := hid hsm
    clear hsm
    by_cases hlt : k < l1.length
    · obtain ⟨b, off, rfl, hc⟩ := h1.elem hlt
      obtain ⟨s, es⟩ : ∃ s, s = l1[k] := ⟨_, rfl⟩
      rw [← es] at hc
      have ES := hid es
      clear es
      by_cases hbig : 1048576 < s.size
      · go_wp2
        go_ret
        exact .inl ⟨rfl, rfl⟩
      · by_cases hsum : 1048576 < t + s.size
        · go_wp2
          go_ret
          exact .inl ⟨rfl, rfl⟩
        · go_wp2
          go_round
          case rel => exact ⟨k + 1, _, by omega, by go_num, rfl, by omega, by omega, small_snoc HSM.out hlt (by rw [← ES.out]; omega)⟩
          case measure => simp [intOf]; omega
    · have hsm1 : ∀ s ∈ l1, s.size ≤ 1048576 := by have := HSM.out; rw [List.take_of_length_le (by omega)] at this; exact this
      have hall := hid hsm1
      clear hsm1
      by_cases b2 : 1048576 < l2.length
      · go_wp2
        go_ret
        exact .inl ⟨rfl, rfl⟩
      by_cases b3 : 1048576 < t + l2.length
      · go_wp2
        go_ret
        exact .inl ⟨rfl, rfl⟩
      go_wp2
      go_loop [5, 7] (fun z i => ∃ (k : Nat) (t : Int), k ≤ l2.length ∧ i = .int .i64 (k : Int) ∧ z = .int .i64 t ∧ 0 ≤ t ∧ t ≤ 1048576 ∧ ∀ s ∈ l2.take k, s.size ≤ 1048576) (fun _ i => l2.length - (intOf i).toNat)
      case atStart => exact ⟨0, _, Nat.zero_le _, rfl, rfl, by omega, by omega, fun s hs => by simp at hs⟩
      case round =>
        obtain ⟨k, t, hk, rfl, rfl, ht0, ht1, hsm⟩ := hrel
        have HSM := hid hsm
        clear hsm
        by_cases hlt : k < l2.length
        · obtain ⟨b, off, rfl, hc⟩ := h2.elem hlt
          obtain ⟨s, es⟩ : ∃ s, s = l2[k] := ⟨_, rfl⟩
          rw [← es] at hc
          have ES := hid es
          clear es
          by_cases hbig : 1048576 < s.size
          · go_wp2
            go_ret
            exact .inl ⟨rfl, rfl⟩
          · by_cases hsum : 1048576 < t + s.size
            · go_wp2
              go_ret
              exact .inl ⟨rfl, rfl⟩
            · go_wp2
              go_round
              case rel => exact ⟨k + 1, _, by omega, by go_num, rfl, by omega, by omega, small_snoc HSM.out hlt (by rw [← ES.out]; omega)⟩
              case measure => simp [intOf]; omega
        · have hsm1 : ∀ s ∈ l2, s.size ≤ 1048576 := by have := HSM.out; rw [List.take_of_length_le (by omega)] at this; exact this
          have HF := hid (⟨hall.out, hsm1⟩ : _ ∧ _)
          clear hall hsm1
          go_wp2
          go_ret
          exact .inr ⟨rfl, HF.out.1, HF.out.2, rfl⟩

set_option maxHeartbeats 1000000 in
theorem bytes5 (a0 a1 : Option Addr) (c0 c1 : Nat) (l1 l2 : List ByteArray) (p q : Bool) (w : World) (h1 : RdS w a0 l1) (h2 : RdS w a1 l2) (n1 : l1.length ≤ maxLen) (n2 : l2.length ≤ maxLen) :
    Calls Tryd.prog 5 #[.slice a0 l1.length c0, .slice a1 l2.length c1, .bool p, .bool q] w fun e w' => BytesPost l1 l2 w e w' := by
  unfold maxLen at n1 n2
  by_cases b1 : 1048576 < l1.length
  · go_enter Tryd.func5, Tryd.ntmps5
    go_wp2
    go_ret
    exact .inl ⟨rfl, rfl⟩
  go_enter Tryd.func5, Tryd.ntmps5
  go_wp2
  go_loop [9, 10] (fun z i => ∃ (k : Nat) (t : Int), k ≤ l1.length ∧ i = .int .i64 (k : Int) ∧ z = .int .i64 t ∧ 0 ≤ t ∧ t ≤ 1048576 ∧ ∀ s ∈ l1.take k, s.size ≤ 1048576) (fun _ i => l1.length - (intOf i).toNat)
  case atStart => exact ⟨0, _, Nat.zero_le _, rfl, rfl, by omega, by omega, fun s hs => by simp at hs⟩
  case round =>
    obtain ⟨k, t, hk, rfl, rfl, ht0, ht1, hsm⟩ := hrel
    have HSM := hid hsm
    clear hsm
    by_cases hlt : k < l1.length
    · obtain ⟨b, off, rfl, hc⟩ := h1.elem hlt
      obtain ⟨s, es⟩ : ∃ s, s = l1[k] := ⟨_, rfl⟩
      rw [← es] at hc
      have ES := hid es
      clear es
      by_cases hbig : 1048576 < s.size
      · go_wp2
        go_ret
        exact .inl ⟨rfl, rfl⟩
      · by_cases hsum : 1048576 < t + s.size
        · go_wp2
          go_ret
          exact .inl ⟨rfl, rfl⟩
        · go_wp2
          go_round
          case rel => exact ⟨k + 1, _, by omega, by go_num, rfl, by omega, by omega, small_snoc HSM.out hlt (by rw [← ES.out]; omega)⟩
          case measure => simp [intOf]; omega
    · have hsm1 : ∀ s ∈ l1, s.size ≤ 1048576 := by have := HSM.out; rw [List.take_of_length_le (by omega)] at this; exact this
      have hall := hid hsm1
      clear hsm1
      by_cases b2 : 1048576 < l2.length
      · go_wp2
        go_ret
        exact .inl ⟨rfl, rfl⟩
      by_cases b3 : 1048576 < t + l2.length
      · go_wp2
        go_ret
        exact .inl ⟨rfl, rfl⟩
      go_wp2
      go_loop [9, 11] (fun z i => ∃ (k : Nat) (t : Int), k ≤ l2.length ∧ i = .int .i64 (k : Int) ∧ z = .int .i64 t ∧ 0 ≤ t ∧ t ≤ 1048576 ∧ ∀ s ∈ l2.take k, s.size ≤ 1048576) (fun _ i => l2.length - (intOf i).toNat)
      case atStart => exact ⟨0, _, Nat.zero_le _, rfl, rfl, by omega, by omega, fun s hs => by simp at hs⟩
      case round =>
        obtain ⟨k, t, hk, rfl, rfl, ht0, ht1, hsm⟩ := hrel
        have HSM := hid hsm
        clear hsm
        by_cases hlt : k < l2.length
        · obtain ⟨b, off, rfl, hc⟩ := h2.elem hlt
          obtain ⟨s, es⟩ : ∃ s, s = l2[k] := ⟨_, rfl⟩
          rw [← es] at hc
          have ES := hid es
          clear es
          by_cases hbig : 1048576 < s.size
          · go_wp2
            go_ret
            exact .inl ⟨rfl, rfl⟩
          · by_cases hsum : 1048576 < t + s.size
            · go_wp2
              go_ret
              exact .inl ⟨rfl, rfl⟩
            · go_wp2
              go_round
              case rel => exact ⟨k + 1, _, by omega, by go_num, rfl, by omega, by omega, small_snoc HSM.out hlt (by rw [← ES.out]; omega)⟩
              case measure => simp [intOf]; omega
        · have hsm1 : ∀ s ∈ l2, s.size ≤ 1048576 := by have := HSM.out; rw [List.take_of_length_le (by omega)] at this; exact this
          have HF := hid (⟨hall.out, hsm1⟩ : _ ∧ _)
          clear hall hsm1
          go_wp2
          go_ret
          exact .inr ⟨rfl, HF.out.1, HF.out.2, rfl⟩

def BigPost (w : World) (e : Ending) (w' : World) : Prop := (e = .returned (.bool true) ∧ w' = w) ∨ (e = .returned (.bool false) ∧ w' = w)

set_option maxHeartbeats 1000000 in
theorem big_any (a0 a1 : Option Addr) (c0 c1 : Nat) (l1 l2 : List ByteArray) (w : World) (h1 : RdS w a0 l1) (h2 : RdS w a1 l2) (n1 : l1.length ≤ maxLen) (n2 : l2.length ≤ maxLen) (s1 : ∀ s ∈ l1, s.size ≤ 1048576) (s2 : ∀ s ∈ l2, s.size ≤ 1048576) :
    Calls Tryd.prog 6 #[.slice a0 l1.length c0, .slice a1 l2.length c1] w fun e w' => BigPost w e w' := by
  unfold maxLen at n1 n2
  have S1 := hid s1
  have S2 := hid s2
  clear s1 s2
  by_cases b1 : 65536 < l1.length
  · go_enter Tryd.func6, Tryd.ntmps6
    go_wp2
    go_ret
    exact .inl ⟨rfl, rfl⟩
  by_cases b2 : 65536 < l2.length
  · go_enter Tryd.func6, Tryd.ntmps6
    go_wp2
    go_ret
    exact .inl ⟨rfl, rfl⟩
  go_enter Tryd.func6, Tryd.ntmps6
  go_wp2
  go_loop [5, 6] (fun z i => ∃ (k : Nat) (t : Int), k ≤ l1.length ∧ i = .int .i64 (k : Int) ∧ z = .int .i64 t ∧ 0 ≤ t ∧ t ≤ 1048576) (fun _ i => l1.length - (intOf i).toNat)
  case atStart => exact ⟨0, _, Nat.zero_le _, rfl, rfl, by omega, by omega⟩
  case round =>
    obtain ⟨k, t, hk, rfl, rfl, ht0, ht1⟩ := hrel
    by_cases hlt : k < l1.length
    · obtain ⟨b, off, rfl, hc⟩ := h1.elem hlt
      have hss := S1.out _ (List.getElem_mem hlt)
      obtain ⟨s, es⟩ : ∃ s, s = l1[k] := ⟨_, rfl⟩
      rw [← es] at hc hss
      clear es
      by_cases hsum : 1048576 < t + (16 + s.size)
      · go_wp2
        go_ret
        exact .inl ⟨rfl, rfl⟩
      · go_wp2
        go_round
        case rel => exact ⟨k + 1, _, by omega, by go_num, rfl, by omega, by omega⟩
        case measure => simp [intOf]; omega
    · go_wp2
      go_loop [5, 7] (fun z i => ∃ (k : Nat) (t : Int), k ≤ l2.length ∧ i = .int .i64 (k : Int) ∧ z = .int .i64 t ∧ 0 ≤ t ∧ t ≤ 1048576) (fun _ i => l2.length - (intOf i).toNat)
      case atStart => exact ⟨0, _, Nat.zero_le _, rfl, rfl, by omega, by omega⟩
      case round =>
        obtain ⟨k, t, hk, rfl, rfl, ht0, ht1⟩ := hrel
        by_cases hlt : k < l2.length
        · obtain ⟨b, off, rfl, hc⟩ := h2.elem hlt
          have hss := S2.out _ (List.getElem_mem hlt)
          obtain ⟨s, es⟩ : ∃ s, s = l2[k] := ⟨_, rfl⟩
          rw [← es] at hc hss
          clear es
          by_cases hsum : 1048576 < t + (16 + s.size)
          · go_wp2
            go_ret
            exact .inl ⟨rfl, rfl⟩
          · go_wp2
            go_round
            case rel => exact ⟨k + 1, _, by omega, by go_num, rfl, by omega, by omega⟩
            case measure => simp [intOf]; omega
        · go_wp2
          go_ret
          exact .inr ⟨rfl, rfl⟩

end Go.Proofs.Qxb6629134aDoor
