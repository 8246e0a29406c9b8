import Derived.Test.Qxb6629134aDoorBytes
namespace Go.Proofs.Qxb6629134aDoor
open Go.RowKit Go.Maps

theorem reads_one {s : ByteArray} {d a b : Int} (h1 : Reads s d a) (h2 : Reads s d b) : a = b := by
  rcases h1 with ⟨rfl, rfl⟩ | ⟨p1, e1, _⟩
  · rcases h2 with ⟨_, rfl⟩ | ⟨p2, _, _⟩
    · rfl
    · exact absurd p2 (by decide)
  · rcases h2 with ⟨rfl, _⟩ | ⟨_, e2, _⟩
    · exact absurd p1 (by decide)
    · rw [e1] at e2; cases e2; rfl
theorem reads_not {s : ByteArray} {d a : Int} (h1 : Reads s d a) (h2 : Refused s) : False := by
  rcases h1 with ⟨rfl, _⟩ | ⟨_, e1, h⟩
  · exact absurd h2.1 (by decide)
  · have := h2.2 a e1
    omega
theorem reads_empty (d : Int) : Reads ByteArray.empty d d := .inl ⟨rfl, rfl⟩
theorem reads_pos {s : ByteArray} {d a : Int} (hd : 1 ≤ d) (h : Reads s d a) : 1 ≤ a := by
  rcases h with ⟨_, rfl⟩ | ⟨_, _, h⟩
  · exact hd
  · exact h

/-- what is known of the two error variables -/
structure Errs (w : World) (te tr : TypeId) (pe pr : Value) : Prop where
  syn : w.cell? ⟨0, 0, none⟩ = some (.iface te pe)
  rng : w.cell? ⟨1, 0, none⟩ = some (.iface tr pr)
  two : 2 ≤ w.heap.size
theorem Errs.below {w w' : World} {te tr : TypeId} {pe pr : Value} (h : Errs w te tr pe pr) (hb : Below w.heap.size w w') : Errs w' te tr pe pr :=
  ⟨(hb.cell (p := ⟨0, 0, none⟩) (by show 0 < w.heap.size; have := h.two; omega)).trans h.syn, (hb.cell (p := ⟨1, 0, none⟩) (by show 1 < w.heap.size; have := h.two; omega)).trans h.rng, Nat.le_trans h.two hb.size⟩

section
variable {m nv sv : Value} {s1 s2 : ByteArray} {w : World} {te tr : TypeId} {pe pr : Value}

theorem zz_ok (hN : Answers w m KN nv) (hS : Answers w m KS sv) (h1 : FirstIs w nv s1) (h2 : FirstIs w sv s2) (l1 : s1.size ≤ 1048576) (l2 : s2.size ≤ 1048576) (he : Errs w te tr pe pr)
    {a b y : Int} (r1 : Reads s1 1 a) (r2 : Reads s2 20 b) (hy : y = min b 100) :
    Calls Tryd.prog 8 #[m] w fun e w' => e = .returned (.tuple #[.int .i64 a, .int .i64 y, .bool false, .int .i64 0, .string ⟨#[]⟩, .string ⟨#[]⟩, .string ⟨#[]⟩]) ∧ Below w.heap.size w w' := by
  refine (zz_any m nv sv s1 s2 w hN hS h1 h2 l1 l2 te tr pe pr he.syn he.rng he.two).mono ?_
  rintro e w' ⟨hb, ⟨a', b', r1', r2', rfl⟩ | ⟨k, hk, rfl⟩⟩
  · rw [reads_one r1' r1, reads_one r2' r2, hy]
    exact ⟨rfl, hb⟩
  · rcases hk with ⟨_, hk⟩ | ⟨_, _, hk⟩
    · exact (reads_not r1 hk).elim
    · exact (reads_not r2 hk).elim

theorem zz_noN (hN : Answers w m KN nv) (hS : Answers w m KS sv) (h1 : FirstIs w nv s1) (h2 : FirstIs w sv s2) (l1 : s1.size ≤ 1048576) (l2 : s2.size ≤ 1048576) (he : Errs w te tr pe pr)
    (r1 : Refused s1) :
    Calls Tryd.prog 8 #[m] w fun e w' => e = .returned (.tuple #[.int .i64 0, .int .i64 0, .bool true, .int .i64 400, .string (KN ++ MSG), .string ⟨#[]⟩, .string KN]) ∧ Below w.heap.size w w' := by
  refine (zz_any m nv sv s1 s2 w hN hS h1 h2 l1 l2 te tr pe pr he.syn he.rng he.two).mono ?_
  rintro e w' ⟨hb, ⟨a', b', r1', r2', rfl⟩ | ⟨k, hk, rfl⟩⟩
  · exact (reads_not r1' r1).elim
  · rcases hk with ⟨rfl, _⟩ | ⟨_, ⟨a, ra⟩, _⟩
    · exact ⟨rfl, hb⟩
    · exact (reads_not ra r1).elim

theorem zz_noS (hN : Answers w m KN nv) (hS : Answers w m KS sv) (h1 : FirstIs w nv s1) (h2 : FirstIs w sv s2) (l1 : s1.size ≤ 1048576) (l2 : s2.size ≤ 1048576) (he : Errs w te tr pe pr)
    {a : Int} (r1 : Reads s1 1 a) (r2 : Refused s2) :
    Calls Tryd.prog 8 #[m] w fun e w' => e = .returned (.tuple #[.int .i64 0, .int .i64 0, .bool true, .int .i64 400, .string (KS ++ MSG), .string ⟨#[]⟩, .string KS]) ∧ Below w.heap.size w w' := by
  refine (zz_any m nv sv s1 s2 w hN hS h1 h2 l1 l2 te tr pe pr he.syn he.rng he.two).mono ?_
  rintro e w' ⟨hb, ⟨a', b', r1', r2', rfl⟩ | ⟨k, hk, rfl⟩⟩
  · exact (reads_not r2' r2).elim
  · rcases hk with ⟨_, hk⟩ | ⟨rfl, _, _⟩
    · exact (reads_not r1 hk).elim
    · exact ⟨rfl, hb⟩
end

theorem first_nil (w : World) : FirstIs w (.slice none 0 0) ByteArray.empty := ⟨none, 0, 0, rfl, .inl ⟨rfl, rfl⟩⟩
theorem head_small {l : List ByteArray} (h : ∀ s ∈ l, s.size ≤ 1048576) : (l.headD ByteArray.empty).size ≤ 1048576 := by
  cases l with
  | nil => decide
  | cons s r => exact h s List.mem_cons_self
theorem empty_small : ByteArray.empty.size ≤ 1048576 := by decide

set_option maxHeartbeats 2000000 in
theorem indep (a0 a1 : Option Addr) (c0 c1 : Nat) (l1 l2 : List ByteArray) (w : World) (h1 : RdS w a0 l1) (h2 : RdS w a1 l2) (n1 : l1.length ≤ maxLen) (n2 : l2.length ≤ maxLen)
    {te tr : TypeId} {pe pr : Value} (he : Errs w te tr pe pr) :
    Calls Tryd.prog 4 #[.slice a0 l1.length c0, .slice a1 l2.length c1] w fun e w' => e = .returned (.bool true) ∧ Below w.heap.size w w' := by
  have f1 := h1.first c0
  have f2 := h2.first c1
  go_enter Tryd.func4, Tryd.ntmps4
  go_wp2_with fail
  refine (bytes12 a0 a1 c0 c1 l1 l2 _ h1 h2 n1 n2).mono ?_
  rintro e w' (⟨rfl, rfl⟩ | ⟨rfl, s1, s2, rfl⟩)
  · go_wp2
    go_ret
    exact ⟨rfl, Below.refl _ _⟩
  go_wp2_with fail
  refine (big_any a0 a1 c0 c1 l1 l2 _ h1 h2 n1 n2 s1 s2).mono ?_
  rintro e w' (⟨rfl, rfl⟩ | ⟨rfl, rfl⟩)
  · go_wp2
    go_ret
    exact ⟨rfl, Below.refl _ _⟩
  have z1 := head_small s1
  have z2 := head_small s2
  have z0 := empty_small
  generalize l1.headD ByteArray.empty = t1 at f1 z1
  generalize l2.headD ByteArray.empty = t2 at f2 z2
  clear s1 s2 h1 h2 n1 n2
  go_wp2_with fail
  refine (query_both a0 a1 l1.length c0 l2.length c1 _).mono ?_
  rintro e w1 ⟨m1, rfl, q1, q2, hb1⟩
  have f1a := f1.below hb1
  have f2a := f2.below hb1
  have hea := he.below hb1
  rcases reads_or t1 1 with ⟨a, r1⟩ | r1
  · rcases reads_or t2 20 with ⟨b, r2⟩ | r2
    · have ha := reads_pos (by omega) r1
      obtain ⟨y, hy⟩ : ∃ y, y = min b 100 := ⟨_, rfl⟩
      have hbp := reads_pos (by omega) r2
      have hy1 : 1 ≤ y ∧ y ≤ 100 := by omega
      have HY := hid hy
      clear hy
      go_wp2_with fail
      refine (zz_ok q1 q2 f1a f2a z1 z2 hea r1 r2 HY.out).mono ?_
      rintro e w2 ⟨rfl, hb2⟩
      have hB2 := hb1.trans (hb2.mono hb1.size)
      go_wp2_with fail
      refine (query_num a0 none l1.length c0 0 0 _).mono ?_
      rintro e w3 ⟨m3, rfl, q3, q4, hb3⟩
      have hB3 := hB2.trans (hb3.mono hB2.size)
      go_wp2_with fail
      refine (zz_ok q3 q4 (f1.below hB3) (first_nil _) z1 z0 (he.below hB3) r1 (reads_empty 20) (y := 20) (by decide)).mono ?_
      rintro e w4 ⟨rfl, hb4⟩
      have hB4 := hB3.trans (hb4.mono hB3.size)
      go_wp2_with fail
      refine (query_size none a1 0 0 l2.length c1 _).mono ?_
      rintro e w5 ⟨m5, rfl, q5, q6, hb5⟩
      have hB5 := hB4.trans (hb5.mono hB4.size)
      go_wp2_with fail
      refine (zz_ok q5 q6 (first_nil _) (f2.below hB5) z0 z2 (he.below hB5) (reads_empty 1) r2 HY.out).mono ?_
      rintro e w6 ⟨rfl, hb6⟩
      have hB6 := hB5.trans (hb6.mono hB5.size)
      go_wp2
      go_ret
      exact ⟨rfl, hB6⟩
    · have ha := reads_pos (by omega) r1
      go_wp2_with fail
      refine (zz_noS q1 q2 f1a f2a z1 z2 hea r1 r2).mono ?_
      rintro e w2 ⟨rfl, hb2⟩
      have hB2 := hb1.trans (hb2.mono hb1.size)
      go_wp2_with fail
      refine (query_num a0 none l1.length c0 0 0 _).mono ?_
      rintro e w3 ⟨m3, rfl, q3, q4, hb3⟩
      have hB3 := hB2.trans (hb3.mono hB2.size)
      go_wp2_with fail
      refine (zz_ok q3 q4 (f1.below hB3) (first_nil _) z1 z0 (he.below hB3) r1 (reads_empty 20) (y := 20) (by decide)).mono ?_
      rintro e w4 ⟨rfl, hb4⟩
      have hB4 := hB3.trans (hb4.mono hB3.size)
      go_wp2_with fail
      refine (query_size none a1 0 0 l2.length c1 _).mono ?_
      rintro e w5 ⟨m5, rfl, q5, q6, hb5⟩
      have hB5 := hB4.trans (hb5.mono hB4.size)
      go_wp2_with fail
      refine (zz_noS q5 q6 (first_nil _) (f2.below hB5) z0 z2 (he.below hB5) (reads_empty 1) r2).mono ?_
      rintro e w6 ⟨rfl, hb6⟩
      have hB6 := hB5.trans (hb6.mono hB5.size)
      go_wp2
      go_ret
      exact ⟨rfl, hB6⟩
  · rcases reads_or t2 20 with ⟨b, r2⟩ | r2
    · obtain ⟨y, hy⟩ : ∃ y, y = min b 100 := ⟨_, rfl⟩
      have hbp := reads_pos (by omega) r2
      have hy1 : 1 ≤ y ∧ y ≤ 100 := by omega
      have HY := hid hy
      clear hy
      go_wp2_with fail
      refine (zz_noN q1 q2 f1a f2a z1 z2 hea r1).mono ?_
      rintro e w2 ⟨rfl, hb2⟩
      have hB2 := hb1.trans (hb2.mono hb1.size)
      go_wp2_with fail
      refine (query_num a0 none l1.length c0 0 0 _).mono ?_
      rintro e w3 ⟨m3, rfl, q3, q4, hb3⟩
      have hB3 := hB2.trans (hb3.mono hB2.size)
      go_wp2_with fail
      refine (zz_noN q3 q4 (f1.below hB3) (first_nil _) z1 z0 (he.below hB3) r1).mono ?_
      rintro e w4 ⟨rfl, hb4⟩
      have hB4 := hB3.trans (hb4.mono hB3.size)
      go_wp2_with fail
      refine (query_size none a1 0 0 l2.length c1 _).mono ?_
      rintro e w5 ⟨m5, rfl, q5, q6, hb5⟩
      have hB5 := hB4.trans (hb5.mono hB4.size)
      go_wp2_with fail
      refine (zz_ok q5 q6 (first_nil _) (f2.below hB5) z0 z2 (he.below hB5) (reads_empty 1) r2 HY.out).mono ?_
      rintro e w6 ⟨rfl, hb6⟩
      have hB6 := hB5.trans (hb6.mono hB5.size)
      go_wp2
      go_ret
      exact ⟨rfl, hB6⟩
    · go_wp2_with fail
      refine (zz_noN q1 q2 f1a f2a z1 z2 hea r1).mono ?_
      rintro e w2 ⟨rfl, hb2⟩
      have hB2 := hb1.trans (hb2.mono hb1.size)
      go_wp2_with fail
      refine (query_num a0 none l1.length c0 0 0 _).mono ?_
      rintro e w3 ⟨m3, rfl, q3, q4, hb3⟩
      have hB3 := hB2.trans (hb3.mono hB2.size)
      go_wp2_with fail
      refine (zz_noN q3 q4 (f1.below hB3) (first_nil _) z1 z0 (he.below hB3) r1).mono ?_
      rintro e w4 ⟨rfl, hb4⟩
      have hB4 := hB3.trans (hb4.mono hB3.size)
      go_wp2_with fail
      refine (query_size none a1 0 0 l2.length c1 _).mono ?_
      rintro e w5 ⟨m5, rfl, q5, q6, hb5⟩
      have hB5 := hB4.trans (hb5.mono hB4.size)
      go_wp2_with fail
      refine (zz_noS q5 q6 (first_nil _) (f2.below hB5) z0 z2 (he.below hB5) (reads_empty 1) r2).mono ?_
      rintro e w6 ⟨rfl, hb6⟩
      have hB6 := hB5.trans (hb6.mono hB5.size)
      go_wp2
      go_ret
      exact ⟨rfl, hB6⟩

end Go.Proofs.Qxb6629134aDoor
