import Derived.Test.Qxb6629134aDoorPage
namespace Go.Proofs.Qxb6629134aDoor
open Go.RowKit Go.Maps

set_option maxHeartbeats 400000 in
theorem first_any (ao : Option Addr) (n c : Nat) (has : Bool) (s : ByteArray) (w : World) (hf : FirstIs w (pick has (.slice ao n c)) s) :
    Calls Tryd.prog 9 #[.slice ao n c, .bool has] w fun e w' => e = .returned (.string s) ∧ w' = w := by
  cases has with
  | false =>
    obtain ⟨ao', n', c', he, ⟨rfl, rfl⟩ | ⟨h0, b, off, rfl, hlt, hc⟩⟩ := hf
    · go_enter Tryd.func9, Tryd.ntmps9
      go_wp2
      go_ret
      exact ⟨rfl, rfl⟩
    · simp [pick] at he
  | true =>
    obtain ⟨ao', n', c', he, ⟨rfl, rfl⟩ | ⟨h0, b, off, rfl, hlt, hc⟩⟩ := hf
    · simp [pick] at he
      obtain ⟨rfl, rfl, rfl⟩ := he
      go_enter Tryd.func9, Tryd.ntmps9
      go_wp2
      go_ret
      exact ⟨rfl, rfl⟩
    · simp [pick] at he
      obtain ⟨rfl, rfl, rfl⟩ := he
      have hz : ((n : Int) == 0) = false := by rw [beq_eq_false_iff_ne]; omega
      go_enter Tryd.func9, Tryd.ntmps9
      go_wp2
      go_ret
      exact ⟨rfl, rfl⟩

theorem page_ok (s : ByteArray) (w : World) (hmax : s.size ≤ 1048576) {a : Int} (hpos : 0 < s.size) (hp : Lib.parseIntB 32 s.data.toList = .ok a) (h1 : 1 ≤ a) :
    Calls Tryd.prog 10 #[.string s] w fun e w' => e = .returned (.tuple #[.int .i64 a, .bool true]) ∧ w' = w := by
  refine (page_any s w hpos hmax).mono ?_
  rintro e w' (⟨n, _, hn, rfl, rfl⟩ | ⟨hr, _, _⟩)
  · rw [hp] at hn
    cases hn
    exact ⟨rfl, rfl⟩
  · have := hr.2 a hp
    omega

theorem page_no (s : ByteArray) (w : World) (hmax : s.size ≤ 1048576) (hr : Refused s) :
    Calls Tryd.prog 10 #[.string s] w fun e w' => e = .returned (.tuple #[.int .i64 0, .bool false]) ∧ w' = w := by
  refine (page_any s w hr.1 hmax).mono ?_
  rintro e w' (⟨n, h1, hn, rfl, rfl⟩ | ⟨_, rfl, rfl⟩)
  · have := hr.2 n hn
    omega
  · exact ⟨rfl, rfl⟩

theorem pick_first {w : World} {ao : Option Addr} {l : List ByteArray} (h : RdS w ao l) (c : Nat) (has : Bool) (hs : ∀ s ∈ l, s.size ≤ 1048576) : ∃ t : ByteArray, FirstIs w (pick has (.slice ao l.length c)) t ∧ t.size ≤ 1048576 := by
  cases has with
  | false => exact ⟨_, first_nil w, empty_small⟩
  | true => exact ⟨_, h.first c, head_small hs⟩

set_option maxHeartbeats 4000000 in
theorem matches_walk (a0 a1 : Option Addr) (c0 c1 : Nat) (l1 l2 : List ByteArray) (hn hs : Bool) (w : World) (h1 : RdS w a0 l1) (h2 : RdS w a1 l2) (n1 : l1.length ≤ maxLen) (n2 : l2.length ≤ maxLen)
    {te tr : TypeId} {pe pr : Value} (he : Errs w te tr pe pr) :
    Calls Tryd.prog 3 #[.slice a0 l1.length c0, .slice a1 l2.length c1, .bool hn, .bool hs] w fun e w' => e = .returned (.bool true) ∧ Below w.heap.size w w' := by
  go_enter Tryd.func3, Tryd.ntmps3
  go_wp2_with fail
  refine (bytes5 a0 a1 c0 c1 l1 l2 hn hs _ h1 h2 n1 n2).mono ?_
  rintro e w' (⟨rfl, rfl⟩ | ⟨rfl, s1, s2, rfl⟩)
  · go_wp2
    go_ret
    exact ⟨rfl, Below.refl _ _⟩
  go_wp2_with fail
  refine (big_any a0 a1 c0 c1 l1 l2 _ h1 h2 n1 n2 s1 s2).mono ?_
  rintro e w' (⟨rfl, rfl⟩ | ⟨rfl, rfl⟩)
  · go_wp2
    go_ret
    exact ⟨rfl, Below.refl _ _⟩
  obtain ⟨t1, f1, z1⟩ := pick_first h1 c0 hn s1
  obtain ⟨t2, f2, z2⟩ := pick_first h2 c1 hs s2
  clear s1 s2 h1 h2 n1 n2
  go_wp2_with fail
  refine (query_any a0 a1 l1.length c0 l2.length c1 hn hs _).mono ?_
  rintro e w1 ⟨m1, rfl, q1, q2, hb1⟩
  have f1a := f1.below hb1
  have f2a := f2.below hb1
  have hea := he.below hb1
  clear f1 f2 he
  rcases reads_or t1 1 with ⟨a, r1⟩ | r1
  · have R1 := r1
    rcases r1 with ⟨rfl, rfl⟩ | ⟨hpos1, hp1, hge1⟩
    · rcases reads_or t2 20 with ⟨b, r2⟩ | r2
      · have R2 := r2
        rcases r2 with ⟨rfl, rfl⟩ | ⟨hpos2, hp2, hge2⟩
        · go_wp2_with fail
          refine (zz_ok q1 q2 f1a f2a z1 z2 hea R1 R2 (y := 20) (by decide)).mono ?_
          rintro e w2 ⟨rfl, hb2⟩
          have hB2 := hb1.trans (hb2.mono hb1.size)
          have g1 := f1a.below hb2
          have g2 := f2a.below hb2
          clear q1 q2 hea f1a f2a R1 R2
          go_wp2_with fail
          refine (first_any a0 l1.length c0 hn ByteArray.empty _ g1).mono ?_
          rintro e w' ⟨rfl, rfl⟩
          go_wp2_with fail
          refine (first_any a1 l2.length c1 hs ByteArray.empty _ g2).mono ?_
          rintro e w' ⟨rfl, rfl⟩
          go_wp2
          go_ret
          exact ⟨rfl, hB2⟩
        · by_cases hb100 : 100 < b
          · have hne2 := ne_of_pos hpos2
            go_wp2_with fail
            refine (zz_ok q1 q2 f1a f2a z1 z2 hea R1 R2 (y := 100) (by omega)).mono ?_
            rintro e w2 ⟨rfl, hb2⟩
            have hB2 := hb1.trans (hb2.mono hb1.size)
            have g1 := f1a.below hb2
            have g2 := f2a.below hb2
            clear q1 q2 hea f1a f2a R1 R2
            go_wp2_with fail
            refine (first_any a0 l1.length c0 hn ByteArray.empty _ g1).mono ?_
            rintro e w' ⟨rfl, rfl⟩
            go_wp2_with fail
            refine (first_any a1 l2.length c1 hs t2 _ g2).mono ?_
            rintro e w' ⟨rfl, rfl⟩
            go_wp2_with fail
            refine (page_ok t2 _ z2 hpos2 hp2 hge2).mono ?_
            rintro e w' ⟨rfl, rfl⟩
            go_wp2
            go_ret
            exact ⟨rfl, hB2⟩
          · have hne2 := ne_of_pos hpos2
            go_wp2_with fail
            refine (zz_ok q1 q2 f1a f2a z1 z2 hea R1 R2 (y := b) (by omega)).mono ?_
            rintro e w2 ⟨rfl, hb2⟩
            have hB2 := hb1.trans (hb2.mono hb1.size)
            have g1 := f1a.below hb2
            have g2 := f2a.below hb2
            clear q1 q2 hea f1a f2a R1 R2
            go_wp2_with fail
            refine (first_any a0 l1.length c0 hn ByteArray.empty _ g1).mono ?_
            rintro e w' ⟨rfl, rfl⟩
            go_wp2_with fail
            refine (first_any a1 l2.length c1 hs t2 _ g2).mono ?_
            rintro e w' ⟨rfl, rfl⟩
            go_wp2_with fail
            refine (page_ok t2 _ z2 hpos2 hp2 hge2).mono ?_
            rintro e w' ⟨rfl, rfl⟩
            go_wp2
            go_ret
            exact ⟨rfl, hB2⟩
      · have hne2 := ne_of_pos r2.1
        go_wp2_with fail
        refine (zz_noS q1 q2 f1a f2a z1 z2 hea R1 r2).mono ?_
        rintro e w2 ⟨rfl, hb2⟩
        have hB2 := hb1.trans (hb2.mono hb1.size)
        have g1 := f1a.below hb2
        have g2 := f2a.below hb2
        clear q1 q2 hea f1a f2a R1
        go_wp2_with fail
        refine (first_any a0 l1.length c0 hn ByteArray.empty _ g1).mono ?_
        rintro e w' ⟨rfl, rfl⟩
        go_wp2_with fail
        refine (first_any a1 l2.length c1 hs t2 _ g2).mono ?_
        rintro e w' ⟨rfl, rfl⟩
        go_wp2_with fail
        refine (page_no t2 _ z2 r2).mono ?_
        rintro e w' ⟨rfl, rfl⟩
        go_wp2
        go_ret
        exact ⟨rfl, hB2⟩
    · rcases reads_or t2 20 with ⟨b, r2⟩ | r2
      · have R2 := r2
        rcases r2 with ⟨rfl, rfl⟩ | ⟨hpos2, hp2, hge2⟩
        · have hne1 := ne_of_pos hpos1
          go_wp2_with fail
          refine (zz_ok q1 q2 f1a f2a z1 z2 hea R1 R2 (y := 20) (by decide)).mono ?_
          rintro e w2 ⟨rfl, hb2⟩
          have hB2 := hb1.trans (hb2.mono hb1.size)
          have g1 := f1a.below hb2
          have g2 := f2a.below hb2
          clear q1 q2 hea f1a f2a R1 R2
          go_wp2_with fail
          refine (first_any a0 l1.length c0 hn t1 _ g1).mono ?_
          rintro e w' ⟨rfl, rfl⟩
          go_wp2_with fail
          refine (page_ok t1 _ z1 hpos1 hp1 hge1).mono ?_
          rintro e w' ⟨rfl, rfl⟩
          go_wp2_with fail
          refine (first_any a1 l2.length c1 hs ByteArray.empty _ g2).mono ?_
          rintro e w' ⟨rfl, rfl⟩
          go_wp2
          go_ret
          exact ⟨rfl, hB2⟩
        · by_cases hb100 : 100 < b
          · have hne1 := ne_of_pos hpos1
            have hne2 := ne_of_pos hpos2
            go_wp2_with fail
            refine (zz_ok q1 q2 f1a f2a z1 z2 hea R1 R2 (y := 100) (by omega)).mono ?_
            rintro e w2 ⟨rfl, hb2⟩
            have hB2 := hb1.trans (hb2.mono hb1.size)
            have g1 := f1a.below hb2
            have g2 := f2a.below hb2
            clear q1 q2 hea f1a f2a R1 R2
            go_wp2_with fail
            refine (first_any a0 l1.length c0 hn t1 _ g1).mono ?_
            rintro e w' ⟨rfl, rfl⟩
            go_wp2_with fail
            refine (page_ok t1 _ z1 hpos1 hp1 hge1).mono ?_
            rintro e w' ⟨rfl, rfl⟩
            go_wp2_with fail
            refine (first_any a1 l2.length c1 hs t2 _ g2).mono ?_
            rintro e w' ⟨rfl, rfl⟩
            go_wp2_with fail
            refine (page_ok t2 _ z2 hpos2 hp2 hge2).mono ?_
            rintro e w' ⟨rfl, rfl⟩
            go_wp2
            go_ret
            exact ⟨rfl, hB2⟩
          · have hne1 := ne_of_pos hpos1
            have hne2 := ne_of_pos hpos2
            go_wp2_with fail
            refine (zz_ok q1 q2 f1a f2a z1 z2 hea R1 R2 (y := b) (by omega)).mono ?_
            rintro e w2 ⟨rfl, hb2⟩
            have hB2 := hb1.trans (hb2.mono hb1.size)
            have g1 := f1a.below hb2
            have g2 := f2a.below hb2
            clear q1 q2 hea f1a f2a R1 R2
            go_wp2_with fail
            refine (first_any a0 l1.length c0 hn t1 _ g1).mono ?_
            rintro e w' ⟨rfl, rfl⟩
            go_wp2_with fail
            refine (page_ok t1 _ z1 hpos1 hp1 hge1).mono ?_
            rintro e w' ⟨rfl, rfl⟩
            go_wp2_with fail
            refine (first_any a1 l2.length c1 hs t2 _ g2).mono ?_
            rintro e w' ⟨rfl, rfl⟩
            go_wp2_with fail
            refine (page_ok t2 _ z2 hpos2 hp2 hge2).mono ?_
            rintro e w' ⟨rfl, rfl⟩
            go_wp2
            go_ret
            exact ⟨rfl, hB2⟩
      · have hne1 := ne_of_pos hpos1
        have hne2 := ne_of_pos r2.1
        go_wp2_with fail
        refine (zz_noS q1 q2 f1a f2a z1 z2 hea R1 r2).mono ?_
        rintro e w2 ⟨rfl, hb2⟩
        have hB2 := hb1.trans (hb2.mono hb1.size)
        have g1 := f1a.below hb2
        have g2 := f2a.below hb2
        clear q1 q2 hea f1a f2a R1
        go_wp2_with fail
        refine (first_any a0 l1.length c0 hn t1 _ g1).mono ?_
        rintro e w' ⟨rfl, rfl⟩
        go_wp2_with fail
        refine (page_ok t1 _ z1 hpos1 hp1 hge1).mono ?_
        rintro e w' ⟨rfl, rfl⟩
        go_wp2_with fail
        refine (first_any a1 l2.length c1 hs t2 _ g2).mono ?_
        rintro e w' ⟨rfl, rfl⟩
        go_wp2_with fail
        refine (page_no t2 _ z2 r2).mono ?_
        rintro e w' ⟨rfl, rfl⟩
        go_wp2
        go_ret
        exact ⟨rfl, hB2⟩
  · go_wp2_with fail
    refine (zz_noN q1 q2 f1a f2a z1 z2 hea r1).mono ?_
    rintro e w2 ⟨rfl, hb2⟩
    have hB2 := hb1.trans (hb2.mono hb1.size)
    have g1 := f1a.below hb2
    have hne := ne_of_pos r1.1
    go_wp2_with fail
    refine (first_any a0 l1.length c0 hn t1 _ g1).mono ?_
    rintro e w' ⟨rfl, rfl⟩
    go_wp2_with fail
    refine (page_no t1 _ z1 r1).mono ?_
    rintro e w' ⟨rfl, rfl⟩
    go_wp2
    go_ret
    exact ⟨rfl, hB2⟩

end Go.Proofs.Qxb6629134aDoor
