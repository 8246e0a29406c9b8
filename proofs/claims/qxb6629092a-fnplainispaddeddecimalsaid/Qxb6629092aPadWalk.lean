import Derived.Test.Qxb6629092aPlainWalk
import Derived.Laws.OwnMore
import Derived.Laws.IdiomStrings
namespace Go.Proofs.Qxb6629092a.Pw
open Go.RowKit
open Go.Proofs.Qxb6629092a.Plain

theorem info5 : (Try.prog.info? 5).map (fun i => (i.zero, i.size, i.bytes)) = some (some (.int .u8 0), 1, 1) := by kernel_rfl

/-- the row holds, from place k on, the bytes of s -/
def Tail (s : ByteArray) (k : Nat) (xs : List Value) : Prop := ∀ j (_ : j < s.size), k ≤ j → xs[j]? = some (.int .u8 (s[j].toNat : Int))

theorem Tail.set {s : ByteArray} {m : Nat} {xs : List Value} (h : Tail s (m + 1) xs) (hx : xs.length = s.size) (hm : m < s.size) : Tail s m (xs.set m (.int .u8 (s[m].toNat : Int))) := by
  intro j hj hk
  by_cases e : m = j
  · subst e
    rw [List.getElem?_set_self (by omega)]
  · rw [List.getElem?_set_ne e]
    exact h j hj (by omega)

theorem back_mod {s : ByteArray} {m : Nat} (hm : m < s.size) (ha : allD s.data.toList = true) : 48 + val (s.data.toList.take (m + 1)) % 10 = (s[m].toNat : Int) := by
  have h := (val_mod s.data.toList m (by rw [len_s]; exact hm) ha).1
  have e : s.data.toList[m]'(by rw [len_s]; exact hm) = s[m] := rfl
  rw [e] at h
  omega
theorem back_div {s : ByteArray} {m : Nat} (hm : m < s.size) (ha : allD s.data.toList = true) : val (s.data.toList.take (m + 1)) / 10 = val (s.data.toList.take m) :=
  (val_mod s.data.toList m (by rw [len_s]; exact hm) ha).2

set_option maxHeartbeats 400000 in
theorem pad_any (s : ByteArray) (w : World) (h0 : 0 < s.size) (h18 : s.size ≤ 18) (hall : allD s.data.toList = true) :
    Calls Try.prog 8 #[.int .i64 (val s.data.toList), .int .i64 s.size] w fun e w' => e = .returned (.string s) ∧ Below w.heap.size w w' := by
  have HB : Hid (allD s.data.toList = true) := hall
  have hv0 := val_18 hall (by rw [len_s]; exact h18)
  clear hall
  obtain ⟨i0, hi, hz0, hz1, hz2⟩ := info_parts info5
  go_enter Try.func8, Try.ntmps8
  go_wp2_with (at_make; refine wpList_make_full _ rfl _ _ 30 rfl w.heap.size 5 i0 (.int .u8 0) 1 Try.underlying30 hi hz0 hz1 .i64 .i64 _ _ s.size rfl rfl rfl rfl (by rw [hz2]; omega) (by unfold maxLen; omega) (Nat.le_refl _) ?_; intro w1 hown hgrow)
  go_loopw [0, 6] (fun v i wr => ∃ (k : Nat) (xs : List Value), k ≤ s.size ∧ i = .int .i64 ((k : Int) - 1) ∧ v = .int .i64 (val (s.data.toList.take k)) ∧
      wr.ownsRow w.heap.size 5 1 (.slice (some ⟨w.heap.size, 0, none⟩) s.size s.size) s.size xs ∧ Tail s k xs ∧ Below w.heap.size w wr)
    (fun _ i _ => (intOf i + 1).toNat)
  case atStart =>
    refine ⟨s.size, _, Nat.le_refl _, rfl, ?_, hown, ?_, (Below.refl _ _).grown hgrow (Nat.le_refl _) ?_⟩
    · rw [take_all (by omega)]
    · intro j hj hk; omega
    · intro k hk; cases hk
  case round =>
    obtain ⟨k, xs, hk, rfl, rfl, hown, htail, hbel⟩ := hrel
    have hxs : xs.length = s.size := by have := hown.1; omega
    by_cases hk0 : k = 0
    · subst hk0
      have hconv := fun (cap : Nat) => run_convert_bytes_back (P := Try.prog) wr 30 9 5 ⟨w.heap.size, 0, none⟩ cap s.data.toList Try.underlying30 Try.underlying5 Try.underlying9 (fun j hj => by
        have hj' : j < s.size := by rw [len_s] at hj; exact hj
        have h1 := hown.cellAt j (by omega)
        rw [htail j hj' (Nat.zero_le _)] at h1
        have h2 : (⟨w.heap.size, 0, none⟩ : Addr).add j = ⟨w.heap.size, j, none⟩ := by
          simp only [Addr.add]
          by_cases e : j = 0
          · subst e; rfl
          · simp [e]
        rw [h2, h1]
        rfl)
      rw [len_s] at hconv
      go_wp2
      go_ret
      exact ⟨rfl, hbel⟩
    · obtain ⟨m, rfl⟩ : ∃ m, k = m + 1 := ⟨k - 1, by omega⟩
      have em : ((m + 1 : Nat) : Int) - 1 = (m : Int) := by omega
      rw [em]
      have hfz := hown.frozenAt m
      have hcl := hown.cellAt m (by omega)
      have hm : m < s.size := by omega
      have hv := val_18 (allD_take HB.out (m + 1)) (by rw [List.length_take]; omega)
      go_wp2
      go_roundw
      case rel =>
        rw [back_div hm HB.out, back_mod hm HB.out]
        have hst := hown.stored m (.int .u8 (s[m].toNat : Int))
        exact ⟨m, _, by omega, rfl, rfl, hst.1, htail.set hxs hm, hbel.setCell (Nat.le_refl _) _⟩
      case measure => simp [intOf]

end Go.Proofs.Qxb6629092a.Pw
