import Derived.Test.Qxb6629167aCompareWalk
namespace Go.Proofs.Qxb6629167a.Pw
open Go.RowKit
open Go.Proofs.Qxb6629167a.Plain

theorem Rd.drop {w : World} {b off : Nat} {xs T : List Int} (h : Rd w (some ⟨b, off, none⟩) (xs ++ T)) : Rd w (some ⟨b, off + xs.length, none⟩) T := by
  by_cases h0 : T = []
  · exact .inl h0
  · have hT : 0 < T.length := List.length_pos_iff.2 h0
    obtain ⟨b', off', e, hlt, hc⟩ := h.at (by rw [List.length_append]; omega)
    cases e
    refine .inr ⟨b, off + xs.length, rfl, hlt, fun k hk => ?_⟩
    have := hc (xs.length + k) (by rw [List.length_append]; omega)
    rw [Nat.add_assoc, this, List.getElem_append_right (by omega)]
    congr 2
    simp

theorem cmpBytes_at (xo yo : Option Addr) (n m cx cy : Nat) (xs ys : List Int) (R : Int) (w : World) (q : Nat) (hx : Rd w xo xs) (hy : Rd w yo ys) (hn : n = xs.length) (hm : m = ys.length) (hR : R = lexc xs ys)
    (hxl : xs.length ≤ 131072) (hyl : ys.length ≤ 131072) :
    Calls Try.prog 13 #[.slice xo n cx, .slice yo m cy] (w.drewN q) fun e w' => e = .returned (.int .i64 R) ∧ ∃ p, w' = (w.drewN q).drewN p := by
  subst hn hm hR
  have hb : Below w.heap.size w (w.drewN q) := below_drewN (Below.refl _ _) q
  exact cmpBytes_any xo yo cx cy xs ys _ (hx.below hb) (hy.below hb) hxl hyl

set_option maxHeartbeats 2000000 in
theorem order_core (a0 a1 a2 : Option Addr) (cap0 cap1 cap2 : Nat) (xs la lb : List Int) (w : World) (h0 : a0 = none → xs = [] ∧ cap0 = 0) (h1 : a1 = none → la = [] ∧ cap1 = 0) (h2 : a2 = none → lb = [] ∧ cap2 = 0)
    (hx : Rd w a0 xs) (hla : Rd w a1 la) (hlb : Rd w a2 lb) (hxl : xs.length ≤ 65536) (hal : la.length ≤ 255) (hbl : lb.length ≤ 255) :
    Calls Try.prog 4 #[.slice a0 xs.length cap0, .slice a1 la.length cap1, .slice a2 lb.length cap2] w fun e w' => e = .returned (.bool true) ∧ Below w.heap.size w w' := by
  go_enter Try.func4, Try.ntmps4
  go_wp2_with (go_at_call 10; go_in)
  refine (canon_any a1 cap1 la _ hla hal).mono ?_
  rintro e w' (⟨rfl, rfl⟩ | ⟨rfl, hda, hpa, rfl⟩)
  · go_wp2
    go_ret
    exact ⟨rfl, Below.refl _ _⟩
  go_wp2_with fail
  refine (canon_any a2 cap2 lb _ hlb hbl).mono ?_
  rintro e w' (⟨rfl, rfl⟩ | ⟨rfl, hdb, hpb, rfl⟩)
  · go_wp2
    go_ret
    exact ⟨rfl, Below.refl _ _⟩
  go_wp2_with fail
  refine (clone_any a0 cap0 xs _ h0 hx hxl).mono ?_
  rintro e w1 ⟨d, rfl, hdn, hdr1, hb1⟩
  have hla1 := hla.below hb1
  have hlb1 := hlb.below hb1
  clear hx hla hlb
  go_wp2_with fail
  refine (clone_any a1 cap1 la _ h1 hla1 (by omega)).mono ?_
  rintro e w2 ⟨ao, rfl, han, har2, hb2⟩
  have hdr2 := hdr1.below hb2
  have hlb2 := hlb1.below hb2
  have hB2 := hb1.trans (hb2.mono hb1.size)
  clear hdr1 hlb1 hla1 hb1 hb2
  go_wp2_with fail
  refine (clone_any a2 cap2 lb _ h2 hlb2 (by omega)).mono ?_
  rintro e w3 ⟨bo, rfl, hbn, hbr3, hb3⟩
  have hdr3 := hdr2.below hb3
  have har3 := har2.below hb3
  have hB3 := hB2.trans (hb3.mono hB2.size)
  clear hdr2 hlb2 har2 hb3 hB2
  go_wp2_with fail
  refine (clone_any d xs.length xs _ (fun h => by rw [hdn h]; exact ⟨rfl, rfl⟩) hdr3 hxl).mono ?_
  rintro e w4 ⟨ko, rfl, hkn, hkr4, hb4⟩
  have hdr4 := hdr3.below hb4
  have har4 := har3.below hb4
  have hbr4 := hbr3.below hb4
  have hB4 := hB3.trans (hb4.mono hB3.size)
  clear hdr3 hbr3 har3 hb4 hB3
  go_wp2_with fail
  refine (cmpAmounts_any ao bo la.length lb.length la lb _ har4 hbr4 (by omega) (by omega)).mono ?_
  rintro e w5 ⟨rfl, hq5⟩
  have hb5 := hq5.below
  have hdr5 := hdr4.below hb5
  have har5 := har4.below hb5
  have hbr5 := hbr4.below hb5
  have hkr5 := hkr4.below hb5
  have hB5 := hB4.trans (hb5.mono hB4.size)
  clear hdr4 hbr4 har4 hkr4 hb5 hB4 hq5
  go_wp2_with fail
  refine (clone_any d xs.length xs _ (fun h => by rw [hdn h]; exact ⟨rfl, rfl⟩) hdr5 hxl).mono ?_
  rintro e w6 ⟨da, rfl, hdan, hdar6, hb6⟩
  have hdr6 := hdr5.below hb6
  have har6 := har5.below hb6
  have hbr6 := hbr5.below hb6
  have hkr6 := hkr5.below hb6
  have hB6 := hB5.trans (hb6.mono hB5.size)
  clear hdr5 hbr5 har5 hkr5 hb6 hB5
  go_wp2_with fail
  refine (clone_any d xs.length xs _ (fun h => by rw [hdn h]; exact ⟨rfl, rfl⟩) hdr6 hxl).mono ?_
  rintro e w7 ⟨db, rfl, hdbn, hdbr7, hb7⟩
  have hdar7 := hdar6.below hb7
  have har7 := har6.below hb7
  have hbr7 := hbr6.below hb7
  have hkr7 := hkr6.below hb7
  have hB7 := hB6.trans (hb7.mono hB6.size)
  clear hdr6 hdar6 hbr6 har6 hkr6 hb7 hB6
  go_wp2_with fail
  refine (packed_any da xs ao la.length la _ hdan hdar7 hxl har7 hal hda).mono ?_
  rintro e w8 ⟨po, cp, rfl, hpr8, hcp, hb8⟩
  have hdbr8 := hdbr7.below hb8
  have hbr8 := hbr7.below hb8
  have hkr8 := hkr7.below hb8
  have hB8 := hB7.trans (hb8.mono hB7.size)
  clear hdar7 hdbr7 hbr7 har7 hkr7 hb8 hB7
  go_wp2_with fail
  refine (packed_any db xs bo lb.length lb _ hdbn hdbr8 hxl hbr8 hbl hdb).mono ?_
  rintro e w9 ⟨ro, cr, rfl, hrr9, hcr, hb9⟩
  have hpr9 := hpr8.below hb9
  have hkr9 := hkr8.below hb9
  have hB9 := hB8.trans (hb9.mono hB8.size)
  clear hdbr8 hbr8 hpr8 hkr8 hb9 hB8
  rw [List.append_assoc] at hpr9 hrr9
  go_wp2
  go_loopw [16] (fun i wr => ∃ q : Nat, q ≤ xs.length ∧ i = .int .i64 (q : Int) ∧ Below w9.heap.size w9 wr) (fun i _ => xs.length - (intOf i).toNat)
  case atStart => exact ⟨0, Nat.zero_le _, rfl, Below.refl _ _⟩
  case round =>
    obtain ⟨q, hq, rfl, hbq⟩ := hrel
    by_cases hlq : q < xs.length
    · obtain ⟨b1, f1, rfl, hc1⟩ := (hpr9.below hbq).elem (elem_left hlq)
      obtain ⟨b2, f2, rfl, hc2⟩ := (hrr9.below hbq).elem (elem_left hlq)
      obtain ⟨b3, f3, rfl, hc3⟩ := (hkr9.below hbq).elem (List.getElem?_eq_getElem hlq)
      obtain ⟨x, ex⟩ : ∃ x, x = xs[q] := ⟨_, rfl⟩
      rw [← ex] at hc1 hc2 hc3
      clear ex
      go_wp2
      go_quiet (fail)
      go_wp2
      go_roundw
      case rel => exact ⟨q + 1, by omega, by go_num, below_drewN hbq _⟩
      case measure => simp [intOf]; omega
    · have hpr10 := hpr9.below hbq
      have hrr10 := hrr9.below hbq
      have hB10 := hB9.trans (hbq.mono hB9.size)
      clear hpr9 hrr9 hkr9 hbq hB9
      obtain ⟨b1, f1, rfl, hc1⟩ := hpr10.elem (elem_right (k := 0) (x := (la.length : Int)) rfl)
      obtain ⟨b2, f2, rfl, hc2⟩ := hrr10.elem (elem_right (k := 0) (x := (lb.length : Int)) rfl)
      rw [Nat.add_zero] at hc1 hc2
      have hrp := hpr10.drop
      have hrr := hrr10.drop
      have hT1 : ([(la.length : Int)] ++ pairs la).length = 1 + (la.length + 1) / 2 := by rw [List.length_append, pairs_length]; rfl
      have hT2 : ([(lb.length : Int)] ++ pairs lb).length = 1 + (lb.length + 1) / 2 := by rw [List.length_append, pairs_length]; rfl
      have HT := hid (⟨hT1, hT2, (packed_order la lb hda hdb).symm⟩ : _ ∧ _ ∧ _)
      clear hT1 hT2
      go_wp2
      go_quiet ((go_at_call 13; exact Calls.quiet_of (cmpBytes_at _ _ _ _ _ _ ([(la.length : Int)] ++ pairs la) ([(lb.length : Int)] ++ pairs lb) (cmpA la lb) wr _ hrp hrr (by rw [HT.out.1]; omega) (by rw [HT.out.2.1]; omega) HT.out.2.2 (by rw [HT.out.1]; omega) (by rw [HT.out.2.1]; omega))))
      go_wp2
      go_ret
      exact ⟨rfl, below_drewN hB10 _⟩

end Go.Proofs.Qxb6629167a.Pw
