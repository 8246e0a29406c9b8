import Derived.Test.Qxb6629134aDoorQuery
import Derived.RegionTactic
namespace Go.Proofs.Qxb6629134aDoor
open Go.RowKit Go.Maps

def Reads (s : ByteArray) (d a : Int) : Prop := (s = ByteArray.empty ∧ a = d) ∨ (0 < s.size ∧ Lib.parseIntB 32 s.data.toList = .ok a ∧ 1 ≤ a)
def Refused (s : ByteArray) : Prop := 0 < s.size ∧ ∀ v, Lib.parseIntB 32 s.data.toList = .ok v → v < 1

theorem size_zero {s : ByteArray} (h : s.size = 0) : s = ByteArray.empty := by
  apply ByteArray.ext; apply Array.eq_empty_of_size_eq_zero; exact h
theorem ne_of_pos {s : ByteArray} (h : 0 < s.size) : s.toList.isEmpty = false := by
  rw [ByteArray.toList_eq, List.isEmpty_eq_false_iff]
  intro e
  have h2 : s.data.toList.length = s.size := by rw [Array.length_toList]; rfl
  rw [e] at h2
  simp at h2
  omega

theorem reads_or (s : ByteArray) (d : Int) : (∃ a, Reads s d a) ∨ Refused s := by
  by_cases h0 : s.size = 0
  · exact .inl ⟨d, .inl ⟨size_zero h0, rfl⟩⟩
  · generalize hp : Lib.parseIntB 32 s.data.toList = r
    rcases r with v | _ | _
    · by_cases h1 : 1 ≤ v
      · exact .inl ⟨v, .inr ⟨by omega, hp, h1⟩⟩
      · refine .inr ⟨by omega, fun v' hv' => ?_⟩
        rw [hp] at hv'
        cases hv'
        omega
    · refine .inr ⟨by omega, fun v' hv' => ?_⟩
      rw [hp] at hv'
      cases hv'
    · refine .inr ⟨by omega, fun v' hv' => ?_⟩
      rw [hp] at hv'
      cases hv'

/-- the state between two rounds: the result's cell, the page, the list of parameters -/
structure St (w wr : World) (x y : Int) : Prop where
  bel : Below w.heap.size w wr
  big : w.heap.size + 3 ≤ wr.heap.size
  res : wr.heap[w.heap.size]? = some (.cells #[.int .i64 0, .int .i64 0] 34 (0, 0))
  page : wr.heap[w.heap.size + 1]? = some (.cells #[.int .i64 x, .int .i64 y] 34 (0, 0))
  pars : wr.heap[w.heap.size + 1 + 1]? = some (.cells #[.string KN, .pointer (some ⟨w.heap.size + 1, 0, none⟩), .string KS, .pointer (some ⟨w.heap.size + 1, 1, none⟩)] 45 (0, 0))

theorem St.below {w wr w2 : World} {x y : Int} (h : St w wr x y) (hb : Below wr.heap.size wr w2) : St w w2 x y := by
  have h3 := h.big
  have hs := hb.size
  exact ⟨h.bel.trans (hb.mono h.bel.size), by omega, (hb.block _ (by omega)).trans h.res, (hb.block _ (by omega)).trans h.page, (hb.block _ (by omega)).trans h.pars⟩

theorem St.set0 {w wr : World} {x y : Int} (h : St w wr x y) (v : Int) : St w (wr.setCell ⟨w.heap.size + 1, 0, none⟩ (.int .i64 v)) v y := by
  refine ⟨h.bel.setCell (by show w.heap.size ≤ w.heap.size + 1; omega) _, by have := h.big; simpa using this, ?_, ?_, ?_⟩
  · rw [heap_setCell_other _ ⟨w.heap.size + 1, 0, none⟩ _ _ (by show w.heap.size ≠ w.heap.size + 1; omega)]; exact h.res
  · exact heap_setCell_same _ _ _ _ _ _ h.page
  · rw [heap_setCell_other _ ⟨w.heap.size + 1, 0, none⟩ _ _ (by show w.heap.size + 1 + 1 ≠ w.heap.size + 1; omega)]; exact h.pars

theorem St.set1 {w wr : World} {x y : Int} (h : St w wr x y) (v : Int) : St w (wr.setCell ⟨w.heap.size + 1, 1, none⟩ (.int .i64 v)) x v := by
  refine ⟨h.bel.setCell (by show w.heap.size ≤ w.heap.size + 1; omega) _, by have := h.big; simpa using this, ?_, ?_, ?_⟩
  · rw [heap_setCell_other _ ⟨w.heap.size + 1, 1, none⟩ _ _ (by show w.heap.size ≠ w.heap.size + 1; omega)]; exact h.res
  · exact heap_setCell_same _ _ _ _ _ _ h.page
  · rw [heap_setCell_other _ ⟨w.heap.size + 1, 1, none⟩ _ _ (by show w.heap.size + 1 + 1 ≠ w.heap.size + 1; omega)]; exact h.pars

theorem St.p0 {w wr : World} {x y : Int} (h : St w wr x y) : wr.cell? ⟨w.heap.size + 1 + 1, 0, none⟩ = some (.string KN) := cell_of_row _ _ 0 _ _ _ h.pars
theorem St.p1 {w wr : World} {x y : Int} (h : St w wr x y) : wr.cell? ⟨w.heap.size + 1 + 1, 1, none⟩ = some (.pointer (some ⟨w.heap.size + 1, 0, none⟩)) := cell_of_row _ _ 1 _ _ _ h.pars
theorem St.p2 {w wr : World} {x y : Int} (h : St w wr x y) : wr.cell? ⟨w.heap.size + 1 + 1, 2, none⟩ = some (.string KS) := cell_of_row _ _ 2 _ _ _ h.pars
theorem St.p3 {w wr : World} {x y : Int} (h : St w wr x y) : wr.cell? ⟨w.heap.size + 1 + 1, 3, none⟩ = some (.pointer (some ⟨w.heap.size + 1, 1, none⟩)) := cell_of_row _ _ 3 _ _ _ h.pars
theorem St.g0 {w wr : World} {x y : Int} (h : St w wr x y) : wr.cell? ⟨w.heap.size + 1, 0, none⟩ = some (.int .i64 x) := cell_of_row _ _ 0 _ _ _ h.page
theorem St.g1 {w wr : World} {x y : Int} (h : St w wr x y) : wr.cell? ⟨w.heap.size + 1, 1, none⟩ = some (.int .i64 y) := cell_of_row _ _ 1 _ _ _ h.page
theorem St.gf {w wr : World} {x y : Int} (h : St w wr x y) (j : Nat) : wr.frozen? ⟨w.heap.size + 1, j, none⟩ = false := frozen_of_row _ _ j _ _ h.page
theorem St.r0 {w wr : World} {x y : Int} (h : St w wr x y) : wr.cell? ⟨w.heap.size, 0, none⟩ = some (.int .i64 0) := cell_of_row _ _ 0 _ _ _ h.res
theorem St.r1 {w wr : World} {x y : Int} (h : St w wr x y) : wr.cell? ⟨w.heap.size, 1, none⟩ = some (.int .i64 0) := cell_of_row _ _ 1 _ _ _ h.res
theorem St.rf {w wr : World} {x y : Int} (h : St w wr x y) (j : Nat) : wr.frozen? ⟨w.heap.size, j, none⟩ = false := frozen_of_row _ _ j _ _ h.res

abbrev MSG : ByteArray := ⟨#[32, 109, 117, 115, 116, 32, 98, 101, 32, 97, 32, 119, 104, 111, 108, 101, 32, 110, 117, 109, 98, 101, 114, 32, 102, 114, 111, 109, 32, 49, 32, 116, 111, 32, 50, 49, 52, 55, 52, 56, 51, 54, 52, 55]⟩

def ReadPost (s1 s2 : ByteArray) (w : World) (e : Ending) (w' : World) : Prop :=
  Below w.heap.size w w' ∧
  ((∃ a b, Reads s1 1 a ∧ Reads s2 20 b ∧ e = .returned (.tuple #[.agg #[.int .i64 a, .int .i64 (min b 100)], .nilIface])) ∨
   (∃ k E, ((k = KN ∧ Refused s1) ∨ (k = KS ∧ (∃ a, Reads s1 1 a) ∧ Refused s2)) ∧ e = .returned (.tuple #[.agg #[.int .i64 0, .int .i64 0], .iface 39 (.pointer (some ⟨E, 0, none⟩))]) ∧
      w'.heap[E]? = some (.cells #[.int .i64 400, .string (k ++ MSG), .string ⟨#[]⟩, .string k] 42 (0, 0))))

/-- the world behind a refusal -/
def refW (w w2 : World) (k : ByteArray) : World :=
  ((w2.setCell ⟨w.heap.size, 0, none⟩ (.int .i64 0)).setCell ⟨w.heap.size, 1, none⟩ (.int .i64 0)).alloc (.cells #[.int .i64 400, .string (k ++ MSG), .string ⟨#[]⟩, .string k] 42)

theorem refuse_end {w w2 : World} {x y : Int} (h : St w w2 x y) (k : ByteArray) :
    Below w.heap.size w (refW w w2 k) ∧ (refW w w2 k).heap[w2.heap.size]? = some (.cells #[.int .i64 400, .string (k ++ MSG), .string ⟨#[]⟩, .string k] 42 (0, 0)) ∧
    (refW w w2 k).cell? ⟨w.heap.size, 0, none⟩ = some (.int .i64 0) ∧ (refW w w2 k).cell? ⟨w.heap.size, 1, none⟩ = some (.int .i64 0) := by
  have hb := h.big
  have hres := heap_setCell_same _ _ 1 _ _ (.int .i64 0) (heap_setCell_same _ _ 0 _ _ (.int .i64 0) h.res)
  have hsz : ((w2.setCell ⟨w.heap.size, 0, none⟩ (.int .i64 0)).setCell ⟨w.heap.size, 1, none⟩ (.int .i64 0)).heap.size = w2.heap.size := by simp
  have hbel : Below w.heap.size w (refW w w2 k) := ((h.bel.setCell (p := ⟨w.heap.size, 0, none⟩) (Nat.le_refl _) _).setCell (p := ⟨w.heap.size, 1, none⟩) (Nat.le_refl _) _).alloc (by rw [hsz]; omega) _
  have hnew : (refW w w2 k).heap[w2.heap.size]? = some (.cells #[.int .i64 400, .string (k ++ MSG), .string ⟨#[]⟩, .string k] 42 (0, 0)) := by
    have := heap_alloc_new ((w2.setCell ⟨w.heap.size, 0, none⟩ (.int .i64 0)).setCell ⟨w.heap.size, 1, none⟩ (.int .i64 0)) (.cells #[.int .i64 400, .string (k ++ MSG), .string ⟨#[]⟩, .string k] 42)
    rw [hsz] at this
    exact this
  have hold : (refW w w2 k).heap[w.heap.size]? = some (.cells #[.int .i64 0, .int .i64 0] 34 (0, 0)) :=
    (Below.heap_alloc _ _ _ (by rw [hsz]; omega)).trans hres
  exact ⟨hbel, hnew, cell_of_row _ _ 0 _ _ _ hold, cell_of_row _ _ 1 _ _ _ hold⟩

theorem parse_refused (s : ByteArray) (hr : Refused s) (hlim : s.size ≤ 1048576) (w : World) (te tr : TypeId) (pe pr : Value)
    (hs : w.cell? ⟨0, 0, none⟩ = some (.iface te pe)) (hr2 : w.cell? ⟨1, 0, none⟩ = some (.iface tr pr)) :
    Calls Tryd.prog 15 #[.string s, .int .i64 10, .int .i64 32] w fun e w' => ∃ n : Int, ((n < 1 ∧ e = .returned (.tuple #[.int .i64 n, .nilIface])) ∨ ∃ N : Nat, e = .returned (.tuple #[.int .i64 n, .iface 56 (.pointer (some ⟨N, 0, none⟩))])) ∧ Below w.heap.size w w' := by
  by_cases h : ∃ v, Lib.parseIntB 32 s.data.toList = .ok v
  · obtain ⟨v, hv⟩ := h
    refine (parse_ok s (by omega) v hv w).mono ?_
    rintro e w' ⟨rfl, hb⟩
    exact ⟨v, .inl ⟨hr.2 v hv, rfl⟩, hb⟩
  · refine (parse_no s (by omega) (fun v hv => h ⟨v, hv⟩) w _ _ hs hr2 (.inr ⟨_, _, rfl⟩) (.inr ⟨_, _, rfl⟩)).mono ?_
    rintro e w' ⟨n, N, rfl, hb⟩
    exact ⟨n, .inr ⟨N, rfl⟩, hb⟩

theorem st_start (w : World) : St w (((w.alloc (.cells #[.int .i64 0, .int .i64 0] 34)).alloc (.cells #[.int .i64 1, .int .i64 20] 34)).alloc
    (.cells #[.string KN, .pointer (some ⟨w.heap.size + 1, 0, none⟩), .string KS, .pointer (some ⟨w.heap.size + 1, 1, none⟩)] 45)) 1 20 := by
  have s1 : (w.alloc (.cells #[.int .i64 0, .int .i64 0] 34)).heap.size = w.heap.size + 1 := by simp
  have s2 : ((w.alloc (.cells #[.int .i64 0, .int .i64 0] 34)).alloc (.cells #[.int .i64 1, .int .i64 20] 34)).heap.size = w.heap.size + 1 + 1 := by simp
  refine ⟨(((Below.refl _ _).alloc (Nat.le_refl _) _).alloc (by rw [s1]; omega) _).alloc (by rw [s2]; omega) _, by simp, ?_, ?_, ?_⟩
  · rw [Below.heap_alloc _ _ _ (by rw [s2]; omega), Below.heap_alloc _ _ _ (by rw [s1]; omega)]
    exact heap_alloc_new w _
  · rw [Below.heap_alloc _ _ _ (by rw [s2]; omega), ← s1]
    exact heap_alloc_new _ _
  · rw [← s2]
    exact heap_alloc_new _ _

/-- the world behind a page that was read -/
theorem page_end {w w2 : World} {x y : Int} (h : St w w2 x y) (z : Int) :
    let W := ((w2.setCell ⟨w.heap.size + 1, 1, none⟩ (.int .i64 z)).setCell ⟨w.heap.size, 0, none⟩ (.int .i64 x)).setCell ⟨w.heap.size, 1, none⟩ (.int .i64 z)
    Below w.heap.size w W ∧ W.cell? ⟨w.heap.size, 0, none⟩ = some (.int .i64 x) ∧ W.cell? ⟨w.heap.size, 1, none⟩ = some (.int .i64 z) := by
  intro W
  have hs := h.set1 z
  have hres := heap_setCell_same _ _ 1 _ _ (.int .i64 z) (heap_setCell_same _ _ 0 _ _ (.int .i64 x) hs.res)
  exact ⟨(hs.bel.setCell (p := ⟨w.heap.size, 0, none⟩) (Nat.le_refl _) _).setCell (p := ⟨w.heap.size, 1, none⟩) (Nat.le_refl _) _, cell_of_row _ _ 0 _ _ _ hres, cell_of_row _ _ 1 _ _ _ hres⟩

set_option maxHeartbeats 2000000 in
theorem read_any (m nv sv : Value) (s1 s2 : ByteArray) (w : World) (hN : Answers w m KN nv) (hS : Answers w m KS sv) (h1 : FirstIs w nv s1) (h2 : FirstIs w sv s2) (l1 : s1.size ≤ 1048576) (l2 : s2.size ≤ 1048576)
    (te tr : TypeId) (pe pr : Value) (hes : w.cell? ⟨0, 0, none⟩ = some (.iface te pe)) (her : w.cell? ⟨1, 0, none⟩ = some (.iface tr pr)) (hw2 : 2 ≤ w.heap.size) :
    Calls Tryd.prog 13 #[m] w fun e w' => ReadPost s1 s2 w e w' := by
  go_enter Tryd.func13, Tryd.ntmps13
  go_wp2
  go_loopw [19] (fun i wr => (i = .int .i64 0 ∧ St w wr 1 20) ∨ (i = .int .i64 1 ∧ ∃ a, Reads s1 1 a ∧ St w wr a 20) ∨ (i = .int .i64 2 ∧ ∃ a b, Reads s1 1 a ∧ Reads s2 20 b ∧ St w wr a b)) (fun i _ => (2 - intOf i).toNat)
  case atStart =>
    refine .inl ⟨rfl, st_start w⟩
  case round =>
    rcases hrel with ⟨rfl, hst⟩ | ⟨rfl, a, hr1, hst⟩ | ⟨rfl, a, b, hr1, hr2, hst⟩
    · have p0 := hst.p0
      have p1 := hst.p1
      have hbig := hst.big
      have HST := hid hst
      clear hst
      have hbe : Below w.heap.size w (wr.alloc (.cells #[.string KN, .pointer (some ⟨w.heap.size + 1, 0, none⟩)] 45)) := HST.out.bel.alloc (by omega) _
      have hst1 := HST.out.below ((Below.refl _ _).alloc (Nat.le_refl _) (.cells #[.string KN, .pointer (some ⟨w.heap.size + 1, 0, none⟩)] 45))
      have HST1 := hid hst1
      clear hst1
      go_wp2_with fail
      refine (get_any m KN nv s1 _ (hN _ hbe) (h1.below hbe)).mono ?_
      rintro e w' ⟨rfl, rfl⟩
      rcases reads_or s1 1 with ⟨a, hr⟩ | hr
      · rcases hr with ⟨rfl, rfl⟩ | ⟨hpos, hp, hge⟩
        · go_wp2
          go_roundw
          case rel => exact .inr (.inl ⟨rfl, 1, .inl ⟨rfl, rfl⟩, HST1.out⟩)
          case measure => simp [intOf]
        · have hne := ne_of_pos hpos
          go_wp2_with fail
          refine (parse_ok s1 (by omega) a hp _).mono ?_
          rintro e w2 ⟨rfl, hb⟩
          have hst2 := HST1.out.below hb
          have q1 : w2.cell? ⟨wr.heap.size, 1, none⟩ = some (.pointer (some ⟨w.heap.size + 1, 0, none⟩)) := (hb.cell (p := ⟨wr.heap.size, 1, none⟩) (by simp)).trans (by simp)
          have g0 := hst2.g0
          have gf := hst2.gf 0
          have HST2 := hid hst2
          clear hst2
          go_wp2
          go_roundw
          case rel => exact .inr (.inl ⟨rfl, a, .inr ⟨hpos, hp, hge⟩, HST2.out.set0 a⟩)
          case measure => simp [intOf]
      · have hne := ne_of_pos hr.1
        have b0 := (hbe.cell (p := ⟨0, 0, none⟩) (by show 0 < w.heap.size; omega)).trans hes
        have b1 := (hbe.cell (p := ⟨1, 0, none⟩) (by show 1 < w.heap.size; omega)).trans her
        go_wp2_with fail
        refine (parse_refused s1 hr l1 _ te tr pe pr b0 b1).mono ?_
        rintro e w2 ⟨n, hn, hb⟩
        have hst2 := HST1.out.below hb
        have q0 : w2.cell? ⟨wr.heap.size, 0, none⟩ = some (.string KN) := (hb.cell (p := ⟨wr.heap.size, 0, none⟩) (by simp)).trans (by simp)
        have r0 := hst2.r0
        have r1 := hst2.r1
        have f0 := hst2.rf 0
        have f1 := hst2.rf 1
        have hz2 : w.heap.size < w2.heap.size := by have := hst2.big; omega
        have HST2 := hid hst2
        clear hst2 b0 b1 p0 p1
        rcases hn with ⟨hn, rfl⟩ | ⟨N, rfl⟩
        all_goals
          go_wp2
          go_region
          go_wp2
          obtain ⟨e1, e2, e3, e4⟩ := refuse_end HST2.out KN
          refine bodyPost_ret (v := .tuple #[.agg #[.int .i64 0, .int .i64 0], .iface 39 (.pointer (some ⟨w2.heap.size, 0, none⟩))]) ?_ rfl ?_
          · unfold refW at e3 e4
            simp [results, Tryd.results13, go_sem, e3, e4]
          · exact ⟨e1.drew, .inr ⟨KN, _, .inl ⟨rfl, hr⟩, rfl, e2⟩⟩
    · have p0 := hst.p2
      have p1 := hst.p3
      have hbig := hst.big
      have HST := hid hst
      clear hst
      have hbe : Below w.heap.size w (wr.alloc (.cells #[.string KS, .pointer (some ⟨w.heap.size + 1, 1, none⟩)] 45)) := HST.out.bel.alloc (by omega) _
      have hst1 := HST.out.below ((Below.refl _ _).alloc (Nat.le_refl _) (.cells #[.string KS, .pointer (some ⟨w.heap.size + 1, 1, none⟩)] 45))
      have HST1 := hid hst1
      clear hst1
      go_wp2_with fail
      refine (get_any m KS sv s2 _ (hS _ hbe) (h2.below hbe)).mono ?_
      rintro e w' ⟨rfl, rfl⟩
      rcases reads_or s2 20 with ⟨b, hr⟩ | hr
      · rcases hr with ⟨rfl, rfl⟩ | ⟨hpos, hp, hge⟩
        · go_wp2
          go_roundw
          case rel => exact .inr (.inr ⟨rfl, a, 20, hr1, .inl ⟨rfl, rfl⟩, HST1.out⟩)
          case measure => simp [intOf]
        · have hne := ne_of_pos hpos
          go_wp2_with fail
          refine (parse_ok s2 (by omega) b hp _).mono ?_
          rintro e w2 ⟨rfl, hb⟩
          have hst2 := HST1.out.below hb
          have q1 : w2.cell? ⟨wr.heap.size, 1, none⟩ = some (.pointer (some ⟨w.heap.size + 1, 1, none⟩)) := (hb.cell (p := ⟨wr.heap.size, 1, none⟩) (by simp)).trans (by simp)
          have g0 := hst2.g1
          have gf := hst2.gf 1
          have HST2 := hid hst2
          clear hst2
          go_wp2
          go_roundw
          case rel => exact .inr (.inr ⟨rfl, a, b, hr1, .inr ⟨hpos, hp, hge⟩, HST2.out.set1 b⟩)
          case measure => simp [intOf]
      · have hne := ne_of_pos hr.1
        have b0 := (hbe.cell (p := ⟨0, 0, none⟩) (by show 0 < w.heap.size; omega)).trans hes
        have b1 := (hbe.cell (p := ⟨1, 0, none⟩) (by show 1 < w.heap.size; omega)).trans her
        go_wp2_with fail
        refine (parse_refused s2 hr l2 _ te tr pe pr b0 b1).mono ?_
        rintro e w2 ⟨n, hn, hb⟩
        have hst2 := HST1.out.below hb
        have q0 : w2.cell? ⟨wr.heap.size, 0, none⟩ = some (.string KS) := (hb.cell (p := ⟨wr.heap.size, 0, none⟩) (by simp)).trans (by simp)
        have r0 := hst2.r0
        have r1 := hst2.r1
        have f0 := hst2.rf 0
        have f1 := hst2.rf 1
        have hz2 : w.heap.size < w2.heap.size := by have := hst2.big; omega
        have HST2 := hid hst2
        clear hst2 b0 b1 p0 p1
        rcases hn with ⟨hn, rfl⟩ | ⟨N, rfl⟩
        all_goals
          go_wp2
          go_region
          go_wp2
          obtain ⟨e1, e2, e3, e4⟩ := refuse_end HST2.out KS
          refine bodyPost_ret (v := .tuple #[.agg #[.int .i64 0, .int .i64 0], .iface 39 (.pointer (some ⟨w2.heap.size, 0, none⟩))]) ?_ rfl ?_
          · unfold refW at e3 e4
            simp [results, Tryd.results13, go_sem, e3, e4]
          · exact ⟨e1.drew, .inr ⟨KS, _, .inr ⟨rfl, ⟨a, hr1⟩, hr⟩, rfl, e2⟩⟩
    · have g0 := hst.g0
      have g1 := hst.g1
      have gf := hst.gf 1
      have r0 := hst.r0
      have r1 := hst.r1
      have f0 := hst.rf 0
      have f1 := hst.rf 1
      have HST := hid hst
      clear hst
      go_wp2
      obtain ⟨e1, e3, e4⟩ := page_end HST.out (min b 100)
      refine bodyPost_ret (v := .tuple #[.agg #[.int .i64 a, .int .i64 (min b 100)], .nilIface]) ?_ rfl ?_
      · simp [results, Tryd.results13, go_sem, e3, e4]
      · exact ⟨e1, .inl ⟨a, b, hr1, hr2, rfl⟩⟩

end Go.Proofs.Qxb6629134aDoor
