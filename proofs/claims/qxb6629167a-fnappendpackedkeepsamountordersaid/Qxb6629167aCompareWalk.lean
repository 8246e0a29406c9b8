import Derived.Test.Qxb6629167aRoundWalk
import Derived.Test.Qxb6629167aOrder
namespace Go.Proofs.Qxb6629167a.Pw
open Go.RowKit
open Go.Proofs.Qxb6629167a.Plain

theorem ret_i64 {a b : Int} (h : a = b) : Ending.returned (.int .i64 a) = .returned (.int .i64 b) := by rw [h]

/-- the world but for draws -/
def Dr (w w' : World) : Prop := ∃ q, w' = w.drewN q
theorem Dr.refl (w : World) : Dr w w := ⟨0, rfl⟩
theorem Dr.more {w w' : World} (h : Dr w w') (n : Nat) : Dr w (w'.drewN n) := by
  obtain ⟨q, rfl⟩ := h
  exact ⟨_, World.drewN_drewN _ _ _⟩
theorem Dr.below {w w' : World} (h : Dr w w') : Below w.heap.size w w' := by
  obtain ⟨q, rfl⟩ := h
  exact below_drewN (Below.refl _ _) q

theorem lex_end_lt {xs ys : List Int} {k : Nat} (h : xs.length < ys.length) (hk : ¬ k < xs.length) (hk2 : k ≤ xs.length) : lexc (xs.drop k) (ys.drop k) = -1 := by
  rw [List.drop_eq_nil_of_le (by omega), drop_at (show k < ys.length by omega)]
  rfl
theorem lex_end_gt {xs ys : List Int} {k : Nat} (h : ys.length < xs.length) (hk : ¬ k < ys.length) (hk2 : k ≤ ys.length) : lexc (xs.drop k) (ys.drop k) = 1 := by
  rw [List.drop_eq_nil_of_le (show ys.length ≤ k by omega), drop_at (show k < xs.length by omega)]
  rfl
theorem lex_end_eq {xs ys : List Int} {k : Nat} (h1 : xs.length ≤ ys.length) (h2 : ys.length ≤ xs.length) (hk : ¬ k < xs.length) : lexc (xs.drop k) (ys.drop k) = 0 := by
  rw [List.drop_eq_nil_of_le (by omega), List.drop_eq_nil_of_le (show ys.length ≤ k by omega)]
  rfl

set_option maxHeartbeats 1000000 in
theorem cmpBytes_any (xo yo : Option Addr) (cx cy : Nat) (xs ys : List Int) (w : World) (hx : Rd w xo xs) (hy : Rd w yo ys) (hxl : xs.length ≤ 131072) (hyl : ys.length ≤ 131072) :
    Calls Try.prog 13 #[.slice xo xs.length cx, .slice yo ys.length cy] w fun e w' => e = .returned (.int .i64 (lexc xs ys)) ∧ Dr w w' := by
  obtain ⟨n, hnx, hny, hcase⟩ : ∃ n, n ≤ xs.length ∧ n ≤ ys.length ∧ ((ys.length < xs.length ∧ ys.length ≤ n) ∨ (xs.length < ys.length ∧ xs.length ≤ n) ∨ (xs.length ≤ ys.length ∧ ys.length ≤ xs.length ∧ xs.length ≤ n)) := ⟨min xs.length ys.length, by omega, by omega, by omega⟩
  have hbt : (ys.length < xs.length) ∨ (¬ ys.length < xs.length) := by omega
  rcases hcase with hlen | hlen | hlen
  all_goals
    rcases hbt with hbt | hbt <;> first | (exfalso; omega) | skip
    go_enter Try.func13, Try.ntmps13
    go_wp2
    go_loopw [6] (fun i wr => ∃ k : Nat, k ≤ n ∧ i = .int .i64 (k : Int) ∧ lexc (xs.drop k) (ys.drop k) = lexc xs ys ∧ Dr w wr) (fun i _ => n - (intOf i).toNat)
    case atStart => exact ⟨0, Nat.zero_le _, rfl, rfl, Dr.refl _⟩
    case round =>
      obtain ⟨k, hk, rfl, hlex, q, rfl⟩ := hrel
      by_cases hlt : k < n
      · obtain ⟨b1, f1, rfl, hc1⟩ := hx.elem (List.getElem?_eq_getElem (show k < xs.length by omega))
        obtain ⟨b2, f2, rfl, hc2⟩ := hy.elem (List.getElem?_eq_getElem (show k < ys.length by omega))
        rw [drop_at (show k < xs.length by omega), drop_at (show k < ys.length by omega)] at hlex
        obtain ⟨x, ex⟩ : ∃ x, x = xs[k] := ⟨_, rfl⟩
        obtain ⟨y, ey⟩ : ∃ y, y = ys[k] := ⟨_, rfl⟩
        rw [← ex, ← ey] at hlex
        rw [← ex] at hc1
        rw [← ey] at hc2
        clear ex ey
        have HL := hid hlex
        clear hlex
        by_cases h1 : x < y
        · go_wp2
          go_quiet (fail)
          go_wp2
          go_ret
          exact ⟨ret_i64 (by rw [← HL.out, lexc_lt h1]), (by first | exact ⟨_, rfl⟩ | exact Dr.more ⟨_, rfl⟩ _ | exact Dr.more (Dr.more ⟨_, rfl⟩ _) _)⟩
        by_cases h2 : y < x
        · go_wp2
          go_quiet (fail)
          go_wp2
          go_quiet (fail)
          go_wp2
          go_ret
          exact ⟨ret_i64 (by rw [← HL.out, lexc_gt h2]), (by first | exact ⟨_, rfl⟩ | exact Dr.more ⟨_, rfl⟩ _ | exact Dr.more (Dr.more ⟨_, rfl⟩ _) _)⟩
        · go_wp2
          go_quiet (fail)
          go_wp2
          go_quiet (fail)
          go_wp2
          go_roundw
          case rel =>
            refine ⟨k + 1, by omega, by go_num, ?_, (by first | exact ⟨_, rfl⟩ | exact Dr.more ⟨_, rfl⟩ _ | exact Dr.more (Dr.more ⟨_, rfl⟩ _) _)⟩
            obtain rfl : x = y := by omega
            rw [← HL.out, lexc_eq]
          case measure => simp [intOf]; omega
      · have HL := hid hlex
        clear hlex
        go_wp2
        go_ret
        exact ⟨ret_i64 (by rw [← HL.out]; first | (rw [lex_end_lt (by omega) (by omega) (by omega)]) | (rw [lex_end_gt (by omega) (by omega) (by omega)]) | (rw [lex_end_eq (by omega) (by omega) (by omega)])), ⟨_, rfl⟩⟩

set_option maxHeartbeats 1000000 in
theorem cmpAmounts_any (xo yo : Option Addr) (cx cy : Nat) (xs ys : List Int) (w : World) (hx : Rd w xo xs) (hy : Rd w yo ys) (hxl : xs.length ≤ 131072) (_hyl : ys.length ≤ 131072) :
    Calls Try.prog 12 #[.slice xo xs.length cx, .slice yo ys.length cy] w fun e w' => e = .returned (.int .i64 (cmpA xs ys)) ∧ Dr w w' := by
  by_cases h1 : xs.length < ys.length
  · have e : cmpA xs ys = -1 := by unfold cmpA; rw [if_pos h1]
    rw [e]
    go_enter Try.func12, Try.ntmps12
    go_wp2
    go_ret
    exact ⟨rfl, Dr.refl _⟩
  by_cases h2 : ys.length < xs.length
  · have e : cmpA xs ys = 1 := by unfold cmpA; rw [if_neg h1, if_pos h2]
    rw [e]
    go_enter Try.func12, Try.ntmps12
    go_wp2
    go_ret
    exact ⟨rfl, Dr.refl _⟩
  have e : cmpA xs ys = lexc xs ys := by unfold cmpA; rw [if_neg h1, if_neg h2]
  rw [e]
  clear e
  go_enter Try.func12, Try.ntmps12
  go_wp2
  go_loopw [5] (fun i wr => ∃ k : Nat, k ≤ xs.length ∧ i = .int .i64 (k : Int) ∧ lexc (xs.drop k) (ys.drop k) = lexc xs ys ∧ Dr w wr) (fun i _ => xs.length - (intOf i).toNat)
  case atStart => exact ⟨0, Nat.zero_le _, rfl, rfl, Dr.refl _⟩
  case round =>
    obtain ⟨k, hk, rfl, hlex, q, rfl⟩ := hrel
    by_cases hlt : k < xs.length
    · obtain ⟨b1, f1, rfl, hc1⟩ := hx.elem (List.getElem?_eq_getElem (show k < xs.length by omega))
      obtain ⟨b2, f2, rfl, hc2⟩ := hy.elem (List.getElem?_eq_getElem (show k < ys.length by omega))
      rw [drop_at (show k < xs.length by omega), drop_at (show k < ys.length by omega)] at hlex
      obtain ⟨x, ex⟩ : ∃ x, x = xs[k] := ⟨_, rfl⟩
      obtain ⟨y, ey⟩ : ∃ y, y = ys[k]'(by omega) := ⟨_, rfl⟩
      rw [← ex, ← ey] at hlex
      rw [← ex] at hc1
      rw [← ey] at hc2
      clear ex ey
      have HL := hid hlex
      clear hlex
      by_cases h1 : x < y
      · go_wp2
        go_quiet (fail)
        go_wp2
        go_ret
        exact ⟨ret_i64 (by rw [← HL.out, lexc_lt h1]), (by first | exact ⟨_, rfl⟩ | exact Dr.more ⟨_, rfl⟩ _ | exact Dr.more (Dr.more ⟨_, rfl⟩ _) _)⟩
      by_cases h2 : y < x
      · go_wp2
        go_quiet (fail)
        go_wp2
        go_quiet (fail)
        go_wp2
        go_ret
        exact ⟨ret_i64 (by rw [← HL.out, lexc_gt h2]), (by first | exact ⟨_, rfl⟩ | exact Dr.more ⟨_, rfl⟩ _ | exact Dr.more (Dr.more ⟨_, rfl⟩ _) _)⟩
      · go_wp2
        go_quiet (fail)
        go_wp2
        go_quiet (fail)
        go_wp2
        go_roundw
        case rel =>
          refine ⟨k + 1, by omega, by go_num, ?_, (by first | exact ⟨_, rfl⟩ | exact Dr.more ⟨_, rfl⟩ _ | exact Dr.more (Dr.more ⟨_, rfl⟩ _) _)⟩
          obtain rfl : x = y := by omega
          rw [← HL.out, lexc_eq]
        case measure => simp [intOf]; omega
    · have HL := hid hlex
      clear hlex
      go_wp2
      go_ret
      exact ⟨ret_i64 (by rw [← HL.out, lex_end_eq (by omega) (by omega) (by omega)]), ⟨_, rfl⟩⟩

/-- canonicalAmount answers a Bool; where it says yes the bytes are digits, and there is one -/
def CanonPost (l : List Int) (w : World) (e : Ending) (w' : World) : Prop := (e = .returned (.bool false) ∧ w' = w) ∨ (e = .returned (.bool true) ∧ Dig l ∧ 0 < l.length ∧ w' = w)

set_option maxHeartbeats 400000 in
theorem canon_any (so : Option Addr) (cs : Nat) (l : List Int) (w : World) (hl : Rd w so l) (hll : l.length ≤ 255) :
    Calls Try.prog 11 #[.slice so l.length cs] w fun e w' => CanonPost l w e w' := by
  by_cases h0 : l.length = 0
  · have hz : ((l.length : Int) == 0) = true := by rw [beq_iff_eq]; omega
    go_enter Try.func11, Try.ntmps11
    go_wp2
    go_ret
    exact .inl ⟨rfl, rfl⟩
  have hz : ((l.length : Int) == 0) = false := by rw [beq_eq_false_iff_ne]; omega
  obtain ⟨b, off, rfl, hblt, hc⟩ := hl.at (by omega)
  have hc0 := hc 0 (by omega)
  rw [Nat.add_zero] at hc0
  obtain ⟨c0, ec0⟩ : ∃ c, c = l[0]'(by omega) := ⟨_, rfl⟩
  rw [← ec0] at hc0
  clear ec0
  have HC := hid hc
  clear hc
  go_enter Try.func11, Try.ntmps11
  go_wp2
  go_loop [3] (fun i => ∃ k : Nat, k ≤ l.length ∧ i = .int .i64 (k : Int) ∧ Dig (l.take k)) (fun i => l.length - (intOf i).toNat)
  case atStart => exact ⟨0, Nat.zero_le _, rfl, fun c hc => by simp at hc⟩
  case round =>
    obtain ⟨k, hk, rfl, hdk⟩ := hrel
    have HD := hid hdk
    clear hdk
    by_cases hlt : k < l.length
    · have hck := HC.out k hlt
      obtain ⟨c, ec⟩ : ∃ c, c = l[k] := ⟨_, rfl⟩
      rw [← ec] at hck
      have EC := hid ec
      clear ec
      by_cases hlo : c < 48
      · go_wp2
        go_ret
        exact .inl ⟨rfl, rfl⟩
      · by_cases hhi : 57 < c
        · go_wp2
          go_ret
          exact .inl ⟨rfl, rfl⟩
        · go_wp2
          go_round
          case rel => exact ⟨k + 1, by omega, by go_num, digSnoc HD.out hlt (by rw [← EC.out]; omega) (by rw [← EC.out]; omega)⟩
          case measure => simp [intOf]; omega
    · have hd : Dig l := by have := HD.out; rw [List.take_of_length_le (by omega)] at this; exact this
      have HD2 := hid (⟨hd, by omega⟩ : Dig l ∧ 0 < l.length)
      clear hd
      go_wp2
      all_goals
        go_ret
        first | exact .inl ⟨rfl, rfl⟩ | exact .inr ⟨rfl, HD2.out.1, HD2.out.2, rfl⟩

end Go.Proofs.Qxb6629167a.Pw
