import Derived.Test.Qxb6629167aCloneWalk
import Derived.Test.Qxb6629167aUnpackWalk
import Derived.Test.Qxb6629167aEqualWalk
namespace Go.Proofs.Qxb6629167a.Pw
open Go.RowKit
open Go.Proofs.Qxb6629167a.Plain

theorem packed_any (ao : Option Addr) (xs : List Int) (bo : Option Addr) (cb : Nat) (l : List Int) (w : World) (hao : ao = none → xs = []) (hx : Rd w ao xs) (hxl : xs.length ≤ 65536)
    (hl : Rd w bo l) (hll : l.length ≤ 255) (hd : Dig l) :
    Calls Try.prog 7 #[.slice ao xs.length xs.length, .slice bo l.length cb] w fun e w' => ∃ oo c, e = .returned (.slice oo (xs.length + 1 + (l.length + 1) / 2) c) ∧ Rd w' oo (xs ++ [(l.length : Int)] ++ pairs l) ∧ xs.length + 1 + (l.length + 1) / 2 ≤ c ∧ Below w.heap.size w w' := by
  refine (packed_own ao xs bo cb l w hao hx hxl hl hll hd).mono ?_
  rintro e w' ⟨v', rfl, hown, hbel⟩
  obtain ⟨oo, c, rfl, hrd, _, _, hcap⟩ := Rd.ofOwn hown
  exact ⟨oo, c, rfl, hrd, hcap, hbel⟩

theorem unpack_any (po : Option Addr) (cp : Nat) (l : List Int) (w : World) (hp : Rd w po ([(l.length : Int)] ++ pairs l)) (hll : l.length ≤ 255) (hd : Dig l) (n : Nat) (hn : n = 1 + (l.length + 1) / 2) :
    Calls Try.prog 8 #[.slice po n cp] w fun e w' => ∃ vo c, e = .returned (.tuple #[.slice vo l.length c, .bool true]) ∧ Rd w' vo l ∧ Below w.heap.size w w' := by
  subst hn
  refine (unpack_own po cp l w hp hll hd).mono ?_
  rintro e w' ⟨v', rfl, hown, hbel⟩
  obtain ⟨vo, c, rfl, hrd, _⟩ := Rd.ofOwn hown
  exact ⟨vo, c, rfl, hrd, hbel⟩

theorem digSnoc {l : List Int} {k : Nat} (h : Dig (l.take k)) (hk : k < l.length) (h0 : 48 ≤ l[k]) (h1 : l[k] ≤ 57) : Dig (l.take (k + 1)) := by
  rw [List.take_succ_eq_append_getElem hk]
  intro c hc
  rcases List.mem_append.1 hc with hc | hc
  · exact h c hc
  · simp at hc; subst hc; exact ⟨h0, h1⟩

theorem Rd.elem {w : World} {ao : Option Addr} {l : List Int} (h : Rd w ao l) {k : Nat} {x : Int} (hx : l[k]? = some x) : ∃ b off, ao = some ⟨b, off, none⟩ ∧ w.cell? ⟨b, off + k, none⟩ = some (.int .u8 x) := by
  have hk := (List.getElem?_eq_some_iff.1 hx).1
  obtain ⟨b, off, e, _, hc⟩ := h.at (by omega)
  refine ⟨b, off, e, ?_⟩
  rw [hc k hk]
  rw [List.getElem?_eq_getElem hk] at hx
  cases hx
  rfl

theorem elem_left {xs ys : List Int} {k : Nat} (hk : k < xs.length) : (xs ++ ys)[k]? = some xs[k] := by
  rw [List.getElem?_append_left hk, List.getElem?_eq_getElem hk]
theorem elem_right {xs ys : List Int} {k : Nat} {x : Int} (h : ys[k]? = some x) : (xs ++ ys)[xs.length + k]? = some x := by
  rw [List.getElem?_append_right (by omega), Nat.add_sub_cancel_left]
  exact h

set_option maxHeartbeats 1000000 in
theorem round_core (a0 a1 : Option Addr) (cap0 cap1 : Nat) (xs l : List Int) (w : World) (h0 : a0 = none → xs = [] ∧ cap0 = 0) (h1 : a1 = none → l = [] ∧ cap1 = 0) (hx : Rd w a0 xs) (hl : Rd w a1 l)
    (hxl : xs.length ≤ 65536) (hll : l.length ≤ 255) :
    Calls Try.prog 3 #[.slice a0 xs.length cap0, .slice a1 l.length cap1] w fun e w' => e = .returned (.bool true) ∧ Below w.heap.size w w' := by
  go_enter Try.func3, Try.ntmps3
  go_wp2
  go_loop [5] (fun i => ∃ k : Nat, k ≤ l.length ∧ i = .int .i64 (k : Int) ∧ Dig (l.take k)) (fun i => l.length - (intOf i).toNat)
  case atStart => exact ⟨0, Nat.zero_le _, rfl, fun c hc => by simp at hc⟩
  case round =>
    obtain ⟨k, hk, rfl, hdk⟩ := hrel
    by_cases hlt : k < l.length
    · obtain ⟨b, off, rfl, hblt, hc⟩ := hl.at (by omega)
      have hck := hc k hlt
      obtain ⟨c, ec⟩ : ∃ c, c = l[k] := ⟨_, rfl⟩
      rw [← ec] at hck
      have EC := hid ec
      clear ec hc
      by_cases hlo : c < 48
      · go_wp2
        go_ret
        exact ⟨rfl, Below.refl _ _⟩
      · by_cases hhi : 57 < c
        · go_wp2
          go_ret
          exact ⟨rfl, Below.refl _ _⟩
        · go_wp2
          go_round
          case rel => exact ⟨k + 1, by omega, by go_num, digSnoc hdk hlt (by rw [← EC.out]; omega) (by rw [← EC.out]; omega)⟩
          case measure => simp [intOf]; omega
    · have hd : Dig l := by rw [List.take_of_length_le (by omega)] at hdk; exact hdk
      clear hdk
      go_wp2_with fail
      refine (clone_any a0 cap0 xs _ h0 hx hxl).mono ?_
      rintro e w1 ⟨d, rfl, hdn, hdr, hb1⟩
      have hl1 := hl.below hb1
      go_wp2_with fail
      refine (clone_any a1 cap1 l _ h1 hl1 (by omega)).mono ?_
      rintro e w2 ⟨bo, rfl, hbn, hbr, hb2⟩
      have hdr2 := hdr.below hb2
      have hB2 := hb1.trans (hb2.mono hb1.size)
      clear hl hl1 hx hdr hb2 hb1
      go_wp2_with fail
      refine (clone_any d xs.length xs _ (fun h => by rw [hdn h]; exact ⟨rfl, rfl⟩) hdr2 hxl).mono ?_
      rintro e w3 ⟨ko, rfl, hkn, hkr, hb3⟩
      have hdr3 := hdr2.below hb3
      have hbr3 := hbr.below hb3
      have hB3 := hB2.trans (hb3.mono hB2.size)
      clear hdr2 hbr hb3 hB2
      go_wp2_with fail
      refine (clone_any bo l.length l _ (fun h => by rw [hbn h]; exact ⟨rfl, rfl⟩) hbr3 (by omega)).mono ?_
      rintro e w4 ⟨wo, rfl, hwn, hwr, hb4⟩
      have hdr4 := hdr3.below hb4
      have hbr4 := hbr3.below hb4
      have hkr4 := hkr.below hb4
      have hB4 := hB3.trans (hb4.mono hB3.size)
      clear hdr3 hbr3 hkr hb4 hB3
      go_wp2_with fail
      refine (packed_any d xs bo l.length l _ hdn hdr4 hxl hbr4 hll hd).mono ?_
      rintro e w5 ⟨oo, co, rfl, hor, _, hb5⟩
      have hbr5 := hbr4.below hb5
      have hkr5 := hkr4.below hb5
      have hwr5 := hwr.below hb5
      have hB5 := hB4.trans (hb5.mono hB4.size)
      clear hdr4 hbr4 hkr4 hwr hb5 hB4
      go_wp2_with fail
      refine (packed_any none [] bo l.length l _ (fun _ => rfl) (Rd.nil _ _) (by simp) hbr5 hll hd).mono ?_
      rintro e w6 ⟨ho, ch, rfl, hhr, _, hb6⟩
      have hor6 := hor.below hb6
      have hkr6 := hkr5.below hb6
      have hwr6 := hwr5.below hb6
      have hB6 := hB5.trans (hb6.mono hB5.size)
      clear hbr5 hor hkr5 hwr5 hb6 hB5
      go_wp2
      rw [List.append_assoc] at hor6
      simp only [List.nil_append] at hhr
      have hT : ([(l.length : Int)] ++ pairs l).length = 1 + (l.length + 1) / 2 := by rw [List.length_append, pairs_length]; rfl
      go_loopw [10] (fun i wr => ∃ q : Nat, q ≤ xs.length ∧ i = .int .i64 (q : Int) ∧ Below w6.heap.size w6 wr) (fun i _ => xs.length - (intOf i).toNat)
      case atStart => exact ⟨0, Nat.zero_le _, rfl, Below.refl _ _⟩
      case round =>
        obtain ⟨q, hq, rfl, hbq⟩ := hrel
        by_cases hlq : q < xs.length
        · obtain ⟨b1, f1, rfl, hc1⟩ := (hor6.below hbq).elem (elem_left hlq)
          obtain ⟨b2, f2, rfl, hc2⟩ := (hkr6.below hbq).elem (List.getElem?_eq_getElem hlq)
          go_wp2
          go_quiet (fail)
          go_wp2
          go_roundw
          case rel => exact ⟨q + 1, by omega, by go_num, below_drewN hbq _⟩
          case measure => simp [intOf]; omega
        · obtain ⟨w7, ew⟩ : ∃ w7 : World, w7 = wr := ⟨_, rfl⟩
          subst ew
          have hor7 := hor6.below hbq
          have hhr7 := hhr.below hbq
          have hwr7 := hwr6.below hbq
          have hB7 := hB6.trans (hbq.mono hB6.size)
          clear hor6 hhr hwr6 hkr6 hbq hB6
          go_wp2
          go_loopw [11] (fun i wr => ∃ q : Nat, q ≤ 1 + (l.length + 1) / 2 ∧ i = .int .i64 (q : Int) ∧ Below w7.heap.size w7 wr) (fun i _ => 1 + (l.length + 1) / 2 - (intOf i).toNat)
          case atStart => exact ⟨0, Nat.zero_le _, rfl, Below.refl _ _⟩
          case round =>
            obtain ⟨p, hp, rfl, hbp⟩ := hrel
            by_cases hlp : p < 1 + (l.length + 1) / 2
            · obtain ⟨x, hx⟩ : ∃ x, ([(l.length : Int)] ++ pairs l)[p]? = some x := ⟨_, List.getElem?_eq_getElem (by omega)⟩
              obtain ⟨b1, f1, rfl, hc1⟩ := (hor7.below hbp).elem (elem_right hx)
              obtain ⟨b2, f2, rfl, hc2⟩ := (hhr7.below hbp).elem hx
              clear hx
              go_wp2
              go_quiet (fail)
              go_wp2
              go_roundw
              case rel => exact ⟨p + 1, by omega, by go_num, below_drewN hbp _⟩
              case measure => simp [intOf]; omega
            · have hhr8 := hhr7.below hbp
              have hwr8 := hwr7.below hbp
              have hB8 := hB7.trans (hbp.mono hB7.size)
              clear hor7 hhr7 hwr7 hbp hB7
              go_wp2_with fail
              refine (unpack_any ho ch l _ hhr8 hll hd _ rfl).mono ?_
              rintro e w9 ⟨vo, cv, rfl, hvr, hb9⟩
              have hwr9 := hwr8.below hb9
              have hB9 := hB8.trans (hb9.mono hB8.size)
              clear hhr8 hwr8 hb9 hB8
              go_wp2_with fail
              refine (equal_same vo wo cv l.length l _ hvr hwr9 (by omega)).mono ?_
              rintro e w10 ⟨rfl, hb10⟩
              go_wp2
              go_ret
              exact ⟨rfl, hB9.trans (hb10.mono hB9.size)⟩

end Go.Proofs.Qxb6629167a.Pw
