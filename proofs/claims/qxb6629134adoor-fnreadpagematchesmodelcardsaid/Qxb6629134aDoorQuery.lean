import Derived.Test.Qxb6629134aDoorGet
namespace Go.Proofs.Qxb6629134aDoor
open Go.RowKit Go.Maps

/-- what the map holds at a key: the element's very value -/
def RV (v : Value) : Option (DataW Value × List MemPlace) := some (.held v, [])
theorem law : Keyed Tryd.prog 9 := string_keyed Tryd.underlying9
theorem zero22 (w : World) : (zeroValue 22).run Tryd.prog w = .ok (.slice none 0 0) w := by kernel_rfl

/-- in this world, and in every later one that keeps what is there, the map answers v at the key -/
def Answers (w : World) (m : Value) (key : ByteArray) (v : Value) : Prop :=
  ∀ w', Below w.heap.size w w' → (Instr.lookup 43 m (.string key) false).run Tryd.prog w' = .ok v w'

theorem Answers.below {w w' : World} {m : Value} {key : ByteArray} {v : Value} (h : Answers w m key v) (hb : Below w.heap.size w w') : Answers w' m key v :=
  fun w2 h2 => h w2 (hb.trans (h2.mono hb.size))

theorem answers_own {w : World} {b n : Nat} {D : DataW Value} (h : w.ownsMap Tryd.prog 9 RV b n D) {key : ByteArray} (hk : key.size ≤ maxLen) {v : Value}
    (hv : D.atKey (.string key.data.toList) (.held (.slice none 0 0)) = .held v) : Answers w (.map (some b)) key v := by
  intro w' hb
  have h' : w'.ownsMap Tryd.prog 9 RV b n D := by
    have hlt := h.lt
    obtain ⟨es, clock, h1, h2, h3, h4⟩ := h
    exact ⟨es, clock, (hb.block b hlt).trans h1, h2, h3, h4⟩
  obtain ⟨v', ps, hrun, hR⟩ := h'.lookup law Tryd.underlying43 (zero22 w') (zd := .held (.slice none 0 0)) (zp := []) rfl (WideMaps.keyOf_string_mk Tryd.underlying9 hk)
  rw [hv] at hR
  unfold RV at hR
  simp only [Option.some.injEq, Prod.mk.injEq, DataW.held.injEq] at hR
  rw [hrun, hR.1]

theorem answers_nil (w : World) (key : ByteArray) (hk : key.size ≤ maxLen) : Answers w (.map none) key (.slice none 0 0) := by
  intro w' _
  exact look_nil false law Tryd.underlying43 (zero22 w') (WideMaps.keyOf_string_mk Tryd.underlying9 hk)

def litN : Lit := .string KN.data.toList
def litS : Lit := .string KS.data.toList
theorem lit_ne : litS ≠ litN := by
  intro h
  simp only [litN, litS, Lit.string.injEq] at h
  exact absurd h (by decide)

/-- the parameter's list where it is there -/
def pick (b : Bool) (v : Value) : Value := if b = true then v else .slice none 0 0

theorem szN : KN.size ≤ maxLen := by decide
theorem szS : KS.size ≤ maxLen := by decide

theorem keyN : WideAt.IsKeyLit litN := trivial
theorem keyS : WideAt.IsKeyLit litS := trivial
def D0 : DataW Value := .map []
theorem isMap_put {D : DataW Value} (h : IsMap D) (k : Lit) (d : DataW Value) : IsMap (D.put k d) := by
  obtain ⟨es, rfl⟩ := h
  exact ⟨_, rfl⟩

def QueryPost (nv sv : Value) (w : World) (e : Ending) (w' : World) : Prop := ∃ m, e = .returned m ∧ Answers w' m KN nv ∧ Answers w' m KS sv ∧ Below w.heap.size w w'

set_option maxHeartbeats 400000 in
theorem query_both (a0 a1 : Option Addr) (n0 c0 n1 c1 : Nat) (w : World) :
    Calls Tryd.prog 7 #[.slice a0 n0 c0, .slice a1 n1 c1, .bool true, .bool true] w fun e w' => QueryPost (.slice a0 n0 c0) (.slice a1 n1 c1) w e w' := by
  have hmm := @run_makeMap Tryd.prog
  have hown0 := World.ownsMap_made w Tryd.prog 9 RV
  have tok1 : True := trivial
  have tok2 : True := trivial
  go_enter Tryd.func7, Tryd.ntmps7
  go_wp2_with (first | (at_mapUpdate; have _t := tok1; refine wpList_mapUpdate_own _ rfl _ _ _ 25 rfl 9 22 law Tryd.underlying25 RV w.heap.size 0 _ rfl hown0 (by unfold maxLen; omega) _ _ litN rfl rfl (WideMaps.keyOf_string_mk Tryd.underlying9 szN) (.held (.slice a0 n0 c0)) [] rfl ?_; intro w1 hown1 hgrow1; clear tok1) | (at_mapUpdate; have _t := tok2; refine wpList_mapUpdate_own _ rfl _ _ _ 25 rfl 9 22 law Tryd.underlying25 RV w.heap.size (0 + 1) _ rfl hown1 (by unfold maxLen; omega) _ _ litS rfl rfl (WideMaps.keyOf_string_mk Tryd.underlying9 szS) (.held (.slice a1 n1 c1)) [] rfl ?_; intro w2 hown2 hgrow2; clear tok2))
  go_ret
  refine ⟨_, rfl, answers_own hown2 szN ?_, answers_own hown2 szS ?_, (((Below.refl _ _).alloc (Nat.le_refl _) _).grown hgrow1 (by simp) (by intro k hk; cases hk; exact Nat.le_refl _)).grown hgrow2 (by have := hgrow1.size; simp at this; omega) (by intro k hk; cases hk; exact Nat.le_refl _)⟩
  · exact (atKey_put_other lit_ne.symm _ _).trans (atKey_put_same isMap_empty keyN _ _)
  · exact atKey_put_same (isMap_put isMap_empty _ _) keyS _ _

set_option maxHeartbeats 400000 in
theorem query_num (a0 a1 : Option Addr) (n0 c0 n1 c1 : Nat) (w : World) :
    Calls Tryd.prog 7 #[.slice a0 n0 c0, .slice a1 n1 c1, .bool true, .bool false] w fun e w' => QueryPost (.slice a0 n0 c0) (.slice none 0 0) w e w' := by
  have hmm := @run_makeMap Tryd.prog
  have hown0 := World.ownsMap_made w Tryd.prog 9 RV
  have tok1 : True := trivial
  go_enter Tryd.func7, Tryd.ntmps7
  go_wp2_with (first | (at_mapUpdate; have _t := tok1; refine wpList_mapUpdate_own _ rfl _ _ _ 25 rfl 9 22 law Tryd.underlying25 RV w.heap.size 0 _ rfl hown0 (by unfold maxLen; omega) _ _ litN rfl rfl (WideMaps.keyOf_string_mk Tryd.underlying9 szN) (.held (.slice a0 n0 c0)) [] rfl ?_; intro w1 hown1 hgrow1; clear tok1))
  go_ret
  refine ⟨_, rfl, answers_own hown1 szN ?_, answers_own hown1 szS ?_, ((Below.refl _ _).alloc (Nat.le_refl _) _).grown hgrow1 (by simp) (by intro k hk; cases hk; exact Nat.le_refl _)⟩
  · exact atKey_put_same isMap_empty keyN _ _
  · exact atKey_put_other lit_ne _ _

set_option maxHeartbeats 400000 in
theorem query_size (a0 a1 : Option Addr) (n0 c0 n1 c1 : Nat) (w : World) :
    Calls Tryd.prog 7 #[.slice a0 n0 c0, .slice a1 n1 c1, .bool false, .bool true] w fun e w' => QueryPost (.slice none 0 0) (.slice a1 n1 c1) w e w' := by
  have hmm := @run_makeMap Tryd.prog
  have hown0 := World.ownsMap_made w Tryd.prog 9 RV
  have tok1 : True := trivial
  go_enter Tryd.func7, Tryd.ntmps7
  go_wp2_with (first | (at_mapUpdate; have _t := tok1; refine wpList_mapUpdate_own _ rfl _ _ _ 25 rfl 9 22 law Tryd.underlying25 RV w.heap.size 0 _ rfl hown0 (by unfold maxLen; omega) _ _ litS rfl rfl (WideMaps.keyOf_string_mk Tryd.underlying9 szS) (.held (.slice a1 n1 c1)) [] rfl ?_; intro w1 hown1 hgrow1; clear tok1))
  go_ret
  refine ⟨_, rfl, answers_own hown1 szN ?_, answers_own hown1 szS ?_, ((Below.refl _ _).alloc (Nat.le_refl _) _).grown hgrow1 (by simp) (by intro k hk; cases hk; exact Nat.le_refl _)⟩
  · exact atKey_put_other lit_ne.symm _ _
  · exact atKey_put_same isMap_empty keyS _ _

set_option maxHeartbeats 400000 in
theorem query_none (a0 a1 : Option Addr) (n0 c0 n1 c1 : Nat) (w : World) :
    Calls Tryd.prog 7 #[.slice a0 n0 c0, .slice a1 n1 c1, .bool false, .bool false] w fun e w' => QueryPost (.slice none 0 0) (.slice none 0 0) w e w' := by
  go_enter Tryd.func7, Tryd.ntmps7
  go_wp2
  go_ret
  exact ⟨_, rfl, answers_nil _ _ szN, answers_nil _ _ szS, Below.refl _ _⟩

theorem query_any (a0 a1 : Option Addr) (n0 c0 n1 c1 : Nat) (hn hs : Bool) (w : World) :
    Calls Tryd.prog 7 #[.slice a0 n0 c0, .slice a1 n1 c1, .bool hn, .bool hs] w fun e w' => QueryPost (pick hn (.slice a0 n0 c0)) (pick hs (.slice a1 n1 c1)) w e w' := by
  cases hn <;> cases hs
  · exact query_none a0 a1 n0 c0 n1 c1 w
  · exact query_size a0 a1 n0 c0 n1 c1 w
  · exact query_num a0 a1 n0 c0 n1 c1 w
  · exact query_both a0 a1 n0 c0 n1 c1 w

end Go.Proofs.Qxb6629134aDoor
