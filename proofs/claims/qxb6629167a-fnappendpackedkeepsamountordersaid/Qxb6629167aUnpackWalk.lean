import Derived.Test.Qxb6629167aPackWalk
namespace Go.Proofs.Qxb6629167a.Pw
open Go.RowKit
open Go.Proofs.Qxb6629167a.Plain

theorem and_small : ∀ x y : Fin 10, bits BinOp.and IntKind.u8 ((x.val : Int) * 16 + (y.val : Int)) 15 = (y.val : Int) := by decide +kernel
theorem and_dig {x y : Int} (h1 : 0 ≤ x ∧ x ≤ 9) (h2 : 0 ≤ y ∧ y ≤ 9) : bits BinOp.and IntKind.u8 (x * 16 + y) 15 = y := by
  have h := and_small ⟨x.toNat, by omega⟩ ⟨y.toNat, by omega⟩
  have e1 : ((x.toNat : Nat) : Int) = x := by omega
  have e2 : ((y.toNat : Nat) : Int) = y := by omega
  simp only [e1, e2] at h
  exact h

theorem own_dig {w : World} {base : Nat} {v : Value} {k : Nat} {l : List Int} {x : Int} (hk : k < l.length) (hx : x = l[k])
    (h : w.ownsRow base 5 1 v (k + 1) (B8 (l.take k) ++ [.int .u8 x])) : w.ownsRow base 5 1 v (k + 1) (B8 (l.take (k + 1))) := by
  rw [List.take_succ_eq_append_getElem hk, ← hx]
  have e : B8 (l.take k ++ [x]) = B8 (l.take k) ++ [.int .u8 x] := by simp [B8]
  rw [e]
  exact h

set_option maxHeartbeats 400000 in
theorem unpack_own (po : Option Addr) (cp : Nat) (l : List Int) (w : World) (hp : Rd w po ([(l.length : Int)] ++ pairs l)) (hll : l.length ≤ 255) (hd : Dig l) :
    Calls Try.prog 8 #[.slice po (1 + (l.length + 1) / 2) cp] w fun e w' => ∃ v', e = .returned (.tuple #[v', .bool true]) ∧ w'.ownsRow w.heap.size 5 1 v' l.length (B8 l) ∧ Below w.heap.size w w' := by
  obtain ⟨i0, hi, hz0, hz1, hz2⟩ := info_parts info5
  have hpl := pairs_length l
  obtain ⟨b, off, rfl, hblt, hc⟩ := hp.at (by simp)
  have hc0 := hc 0 (by simp)
  simp at hc0
  have hcs : ∀ j p, (pairs l)[j]? = some p → w.cell? ⟨b, off + (1 + j), none⟩ = some (.int .u8 p) := by
    intro j p hj
    have hj' := (List.getElem?_eq_some_iff.1 hj).1
    have := hc (1 + j) (by simp; omega)
    rw [this]
    have e : ([(l.length : Int)] ++ pairs l)[1 + j]? = some p := by
      rw [List.getElem?_append_right (by simp)]
      simpa using hj
    rw [List.getElem?_eq_getElem (by simp; omega)] at e
    simpa using e
  clear hc
  have HCS := hid hcs
  clear hcs
  go_enter Try.func8, Try.ntmps8
  go_wp2_with (at_make; refine wpList_make_own _ rfl _ _ 22 rfl w.heap.size 5 i0 (.int .u8 0) 1 Try.underlying22 hi hz0 hz1 .i64 .i64 _ l.length rfl rfl rfl (by rw [hz2]; omega) (by unfold maxLen; omega) (Nat.le_refl _) ?_; intro w1 hown1 hgrow1)
  have hb1 : Below w.heap.size w w1 := (Below.refl _ _).grown hgrow1 (Nat.le_refl _) (by intro k hk; cases hk)
  have hsz1 : w.heap.size ≤ w1.heap.size := hgrow1.size
  clear hgrow1
  go_loopw [5, 6] (fun v i wr => ∃ k : Nat, k ≤ l.length ∧ i = .int .i64 (k : Int) ∧ wr.ownsRow w.heap.size 5 1 v k (B8 (l.take k)) ∧ Below w.heap.size w wr ∧ w.heap.size ≤ wr.heap.size) (fun _ i _ => l.length - (intOf i).toNat)
  case atStart => exact ⟨0, Nat.zero_le _, rfl, hown1, hb1, hsz1⟩
  case round =>
    obtain ⟨k, hk, rfl, hown, hbel, hsz⟩ := hrel
    clear hown1 hb1 hsz1
    by_cases hlt : k < l.length
    · rcases (show (∃ j, k = 2 * j) ∨ ∃ j, k = 2 * j + 1 from by have := Nat.mod_two_eq_zero_or_one k; rcases this with h | h; exact .inl ⟨k / 2, by omega⟩; exact .inr ⟨k / 2, by omega⟩) with ⟨j, rfl⟩ | ⟨j, rfl⟩
      · obtain ⟨p, hp, hdiv, hp0, hp1⟩ := pairs_even l hd j hlt
        have hcp := (hbel.cell (p := ⟨b, off + (1 + j), none⟩) hblt).trans (HCS.out j p hp)
        have hdig := hd.at (2 * j) hlt
        obtain ⟨c, ec⟩ : ∃ c, c = l[2 * j] := ⟨_, rfl⟩
        rw [← ec] at hdiv hdig
        have EC := hid ec
        clear ec hp
        go_wp2_with (at_builtin; refine wpList_append_own _ rfl (.tmp 45) (.tmp 48) 22 rfl w.heap.size 5 i0 (.int .u8 0) 1 1 Try.underlying22 hi hz0 hz1 hz2 rfl (by decide) _ _ _ rfl (hown.alloc _) ⟨wr.heap.size, 0, none⟩ 1 1 [.int .u8 _] rfl rfl (cell_one_new _ _ _) (by intro u hu; simp at hu; subst hu; rfl) (by unfold maxLen; omega) (by omega) (by simp; omega) ?_; intro v' w2 hown' hgrow' _)
        have hbel2 : Below w.heap.size w w2 := (hbel.alloc (by omega) _).grown hgrow' (by simp; omega) (by intro k hk; have := (hown.lt k hk).1; omega)
        have hsz2 : w.heap.size ≤ w2.heap.size := by have := hgrow'.size; simp at this; omega
        clear hgrow' hown
        go_wp2
        go_roundw
        case rel => exact ⟨_ + 1, by omega, by go_num, own_dig hlt (by rw [← EC.out]; omega) hown', hbel2, hsz2⟩
        case measure => simp [intOf]; omega
      · obtain ⟨p, x, hp, hpx, hx0, hx1⟩ := pairs_odd l hd j hlt
        have hcp := (hbel.cell (p := ⟨b, off + (1 + j), none⟩) hblt).trans (HCS.out j p hp)
        have hj2 : j = (2 * j + 1) / 2 := by omega
        have hcq : wr.cell? ⟨b, off + (1 + (2 * j + 1) / 2), none⟩ = some (.int .u8 p) := by rw [← hj2]; exact hcp
        clear hj2
        have hdig := hd.at (2 * j + 1) hlt
        obtain ⟨c, ec⟩ : ∃ c, c = l[2 * j + 1] := ⟨_, rfl⟩
        rw [← ec] at hpx hdig
        have EC := hid ec
        have hand : bits BinOp.and IntKind.u8 p 15 = c - 48 := by rw [hpx]; exact and_dig ⟨hx0, hx1⟩ (by omega)
        have hpb : 0 ≤ p ∧ p ≤ 255 := by omega
        clear ec hp hpx
        go_wp2_with (at_builtin; refine wpList_append_own _ rfl (.tmp 45) (.tmp 48) 22 rfl w.heap.size 5 i0 (.int .u8 0) 1 1 Try.underlying22 hi hz0 hz1 hz2 rfl (by decide) _ _ _ rfl (hown.alloc _) ⟨wr.heap.size, 0, none⟩ 1 1 [.int .u8 _] rfl rfl (cell_one_new _ _ _) (by intro u hu; simp at hu; subst hu; rfl) (by unfold maxLen; omega) (by omega) (by simp; omega) ?_; intro v' w2 hown' hgrow' _)
        have hbel2 : Below w.heap.size w w2 := (hbel.alloc (by omega) _).grown hgrow' (by simp; omega) (by intro k hk; have := (hown.lt k hk).1; omega)
        have hsz2 : w.heap.size ≤ w2.heap.size := by have := hgrow'.size; simp at this; omega
        clear hgrow' hown
        go_wp2
        go_roundw
        case rel => exact ⟨_ + 1, by omega, by go_num, own_dig hlt (by rw [← EC.out]; omega) hown', hbel2, hsz2⟩
        case measure => simp [intOf]; omega
    · have hkl : k = l.length := by omega
      subst hkl
      rw [List.take_length] at hown
      by_cases hodd : l.length % 2 = 1
      · obtain ⟨x, hpx, hx0, hx1⟩ := pairs_last l hd hodd
        have hcp := (hbel.cell (p := ⟨b, off + (1 + ((l.length + 1) / 2 - 1)), none⟩) hblt).trans (HCS.out _ _ hpx)
        have hand : bits BinOp.and IntKind.u8 (x * 16) 15 = 0 := by have := and_dig ⟨hx0, hx1⟩ (show 0 ≤ (0 : Int) ∧ (0 : Int) ≤ 9 by omega); rw [Int.add_zero] at this; exact this
        have e2 : 1 + ((l.length + 1) / 2 - 1) = (l.length + 1) / 2 := by omega
        rw [e2] at hcp
        clear hpx e2
        go_wp2
        go_ret2
        exact ⟨_, rfl, hown, hbel⟩
      · go_wp2
        go_ret2
        exact ⟨_, rfl, hown, hbel⟩

end Go.Proofs.Qxb6629167a.Pw
