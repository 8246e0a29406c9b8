import Derived.Test.Qxb6629167aBase
import Derived.Test.Qxb6629167aPlain
namespace Go.Proofs.Qxb6629167a.Pw
open Go.RowKit
open Go.Proofs.Qxb6629167a.Plain

def B8 (l : List Int) : List Value := l.map (Value.int .u8)

theorem or_small : ∀ x y : Fin 10, bits BinOp.or IntKind.u8 ((x.val : Int) * 16) (y.val : Int) = (x.val : Int) * 16 + (y.val : Int) := by decide +kernel
theorem or_dig {c1 c2 : Int} (h1 : 48 ≤ c1 ∧ c1 ≤ 57) (h2 : 48 ≤ c2 ∧ c2 ≤ 57) : bits BinOp.or IntKind.u8 ((c1 - 48) * 16) (c2 - 48) = (c1 - 48) * 16 + (c2 - 48) := by
  have h := or_small ⟨(c1 - 48).toNat, by omega⟩ ⟨(c2 - 48).toNat, by omega⟩
  have e1 : (((c1 - 48).toNat : Nat) : Int) = c1 - 48 := by omega
  have e2 : (((c2 - 48).toNat : Nat) : Int) = c2 - 48 := by omega
  simp only [e1, e2] at h
  exact h

/-- what one round does: an element more -/
theorem own_more {w : World} {base : Nat} {v : Value} {n j : Nat} {xs : List Int} {l : List Int} {x : Int} {m : Int} (hx : (pairs l)[j]? = some x)
    (h : w.ownsRow base 5 1 v (n + 1 + j + 1) (B8 (xs ++ [m] ++ (pairs l).take j) ++ [.int .u8 x])) : w.ownsRow base 5 1 v (n + 1 + (j + 1)) (B8 (xs ++ [m] ++ (pairs l).take (j + 1))) := by
  rw [take_succ_of hx]
  have e : B8 (xs ++ [m] ++ (List.take j (pairs l) ++ [x])) = B8 (xs ++ [m] ++ (pairs l).take j) ++ [.int .u8 x] := by simp [B8]
  rw [e]
  exact h

set_option maxHeartbeats 400000 in
theorem packed_own (ao : Option Addr) (xs : List Int) (bo : Option Addr) (cb : Nat) (l : List Int) (w : World) (hao : ao = none → xs = []) (hx : Rd w ao xs) (hxl : xs.length ≤ 65536)
    (hl : Rd w bo l) (hll : l.length ≤ 255) (hd : Dig l) :
    Calls Try.prog 7 #[.slice ao xs.length xs.length, .slice bo l.length cb] w fun e w' => ∃ v', e = .returned v' ∧ w'.ownsRow (w.heap.size + 1) 5 1 v' (xs.length + 1 + (l.length + 1) / 2) (B8 (xs ++ [(l.length : Int)] ++ pairs l)) ∧ Below w.heap.size w w' := by
  obtain ⟨i0, hi, hz0, hz1, hz2⟩ := info_parts info5
  go_enter Try.func7, Try.ntmps7
  go_wp2_with (at_builtin; refine wpList_append_grows _ rfl (.tmp 7) (.tmp 11) 22 rfl 5 i0 (.int .u8 0) 1 1 Try.underlying22 hi hz0 hz1 hz2 rfl (by decide) ao xs.length xs.length (B8 xs) rfl ?c0 ?c1 ?c2 ⟨w.heap.size, 0, none⟩ 1 1 [.int .u8 (l.length : Int)] rfl rfl ?c3 ?c4 (by omega) ?c5 ?c6 ?_)
  case c0 => intro h; rw [hao h]; exact ⟨rfl, rfl⟩
  case c1 => simp [B8]
  case c2 => exact (hx.below ((Below.refl _ _).alloc (Nat.le_refl _) _)).olds
  case c3 => exact cell_one_new _ _ _
  case c4 => intro u hu; simp at hu; subst hu; rfl
  case c5 => unfold maxLen; omega
  case c6 => omega
  intro v1 w1 hown1 hgrow1
  have hb1 : Below w.heap.size w w1 := ((Below.refl _ _).alloc (Nat.le_refl _) _).grown hgrow1 (by simp) (by intro k hk; cases hk)
  have hsz1 : w.heap.size + 1 ≤ w1.heap.size := by have := hgrow1.size; simpa using this
  clear hgrow1 hx
  go_wp2
  go_loopw [0, 5] (fun v i wr => ∃ j : Nat, 2 * j ≤ l.length + 1 ∧ i = .int .i64 ((2 * j : Nat) : Int) ∧ wr.ownsRow (w.heap.size + 1) 5 1 v (xs.length + 1 + j) (B8 (xs ++ [(l.length : Int)] ++ (pairs l).take j)) ∧ Below w.heap.size w wr ∧ w.heap.size + 1 ≤ wr.heap.size)
    (fun _ i _ => l.length + 1 - (intOf i).toNat)
  case atStart => exact ⟨0, by omega, rfl, by simpa [B8] using hown1, hb1, hsz1⟩
  case round =>
    obtain ⟨j, hj, rfl, hown, hbel, hsz⟩ := hrel
    clear hown1 hb1 hsz1
    by_cases hlt : 2 * j < l.length
    · obtain ⟨b, off, rfl, hblt, hc⟩ := hl.at (by omega)
      have hc1 := (hbel.cell (p := ⟨b, off + 2 * j, none⟩) hblt).trans (hc (2 * j) hlt)
      have hd1 := hd.at (2 * j) hlt
      obtain ⟨c1, ec1⟩ : ∃ c, c = l[2 * j] := ⟨_, rfl⟩
      rw [← ec1] at hc1 hd1
      have EC1 : Hid (c1 = l[2 * j]) := ec1
      clear ec1
      by_cases hlt2 : 2 * j + 1 < l.length
      · have hc2 := (hbel.cell (p := ⟨b, off + (2 * j + 1), none⟩) hblt).trans (hc (2 * j + 1) hlt2)
        have hd2 := hd.at (2 * j + 1) hlt2
        obtain ⟨c2, ec2⟩ : ∃ c, c = l[2 * j + 1] := ⟨_, rfl⟩
        rw [← ec2] at hc2 hd2
        have EC2 : Hid (c2 = l[2 * j + 1]) := ec2
        clear ec2
        have hor := or_dig hd1 hd2
        obtain ⟨p, hp⟩ : ∃ p, p = (c1 - 48) * 16 + (c2 - 48) := ⟨_, rfl⟩
        rw [← hp] at hor
        have HP : Hid (p = (c1 - 48) * 16 + (c2 - 48)) := hp
        clear hp
        go_wp2_with (at_builtin; refine wpList_append_own _ rfl (.tmp 38) (.tmp 40) 22 rfl (w.heap.size + 1) 5 i0 (.int .u8 0) 1 1 Try.underlying22 hi hz0 hz1 hz2 rfl (by decide) _ _ _ rfl (hown.alloc _) ⟨wr.heap.size, 0, none⟩ 1 1 [.int .u8 p] rfl rfl (cell_one_new _ _ _) (by intro u hu; simp at hu; subst hu; rfl) (by unfold maxLen; omega) (by omega) (by simp; omega) ?_; intro v' w2 hown' hgrow' _)
        have hbel2 : Below w.heap.size w w2 := (hbel.alloc (by omega) _).grown hgrow' (by simp; omega) (by intro k hk; have := (hown.lt k hk).1; omega)
        have hsz2 : w.heap.size + 1 ≤ w2.heap.size := by have := hgrow'.size; simp at this; omega
        clear hgrow' hown
        go_wp2
        go_roundw
        case rel => exact ⟨j + 1, by omega, by go_num, own_more (by rw [HP.out, EC1.out, EC2.out]; exact pairs_two l j hlt2) hown', hbel2, hsz2⟩
        case measure => simp [intOf]; omega
      · go_wp2_with (at_builtin; refine wpList_append_own _ rfl (.tmp 38) (.tmp 40) 22 rfl (w.heap.size + 1) 5 i0 (.int .u8 0) 1 1 Try.underlying22 hi hz0 hz1 hz2 rfl (by decide) _ _ _ rfl (hown.alloc _) ⟨wr.heap.size, 0, none⟩ 1 1 [.int .u8 ((c1 - 48) * 16)] rfl rfl (cell_one_new _ _ _) (by intro u hu; simp at hu; subst hu; rfl) (by unfold maxLen; omega) (by omega) (by simp; omega) ?_; intro v' w2 hown' hgrow' _)
        have hbel2 : Below w.heap.size w w2 := (hbel.alloc (by omega) _).grown hgrow' (by simp; omega) (by intro k hk; have := (hown.lt k hk).1; omega)
        have hsz2 : w.heap.size + 1 ≤ w2.heap.size := by have := hgrow'.size; simp at this; omega
        clear hgrow' hown
        go_wp2
        go_roundw
        case rel => exact ⟨j + 1, by omega, by go_num, own_more (by rw [EC1.out]; exact pairs_one l j (by omega)) hown', hbel2, hsz2⟩
        case measure => simp [intOf]; omega
    · have hje : (pairs l).take j = pairs l := List.take_of_length_le (by rw [pairs_length]; omega)
      have hjn : j = (l.length + 1) / 2 := by omega
      have HJ : Hid ((pairs l).take j = pairs l ∧ j = (l.length + 1) / 2) := ⟨hje, hjn⟩
      clear hje hjn
      go_wp2
      go_ret
      refine ⟨_, rfl, ?_, hbel⟩
      rw [HJ.out.1] at hown
      rw [← HJ.out.2]
      exact hown

end Go.Proofs.Qxb6629167a.Pw
