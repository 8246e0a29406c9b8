import Derived.Test.Qxb6629134aDoorRead
import Derived.WalkSmall
namespace Go.Proofs.Qxb6629134aDoor
open Go.RowKit Go.Maps

/-- which parameter is refused -/
def RefusedAt (s1 s2 k : ByteArray) : Prop := (k = KN ∧ Refused s1) ∨ (k = KS ∧ (∃ a, Reads s1 1 a) ∧ Refused s2)

def okTuple (a b : Int) : Value := .tuple #[.int .i64 a, .int .i64 (min b 100), .bool false, .int .i64 0, .string ⟨#[]⟩, .string ⟨#[]⟩, .string ⟨#[]⟩]
def noTuple (k : ByteArray) : Value := .tuple #[.int .i64 0, .int .i64 0, .bool true, .int .i64 400, .string (k ++ MSG), .string ⟨#[]⟩, .string k]

def ZZPost (s1 s2 : ByteArray) (w : World) (e : Ending) (w' : World) : Prop :=
  Below w.heap.size w w' ∧
  ((∃ a b, Reads s1 1 a ∧ Reads s2 20 b ∧ e = .returned (okTuple a b)) ∨ (∃ k, RefusedAt s1 s2 k ∧ e = .returned (noTuple k)))

theorem as39 (v : Value) (w : World) : (Instr.typeAssert (.iface 39 v) 36 39 true).run Tryd.prog w = .ok (.tuple #[v, .bool true]) w := by kernel_rfl

set_option maxHeartbeats 1000000 in
theorem zz_any (m nv sv : Value) (s1 s2 : ByteArray) (w : World) (hN : Answers w m KN nv) (hS : Answers w m KS sv) (h1 : FirstIs w nv s1) (h2 : FirstIs w sv s2) (l1 : s1.size ≤ 1048576) (l2 : s2.size ≤ 1048576)
    (te tr : TypeId) (pe pr : Value) (hes : w.cell? ⟨0, 0, none⟩ = some (.iface te pe)) (her : w.cell? ⟨1, 0, none⟩ = some (.iface tr pr)) (hw2 : 2 ≤ w.heap.size) :
    Calls Tryd.prog 8 #[m] w fun e w' => ZZPost s1 s2 w e w' := by
  go_enter Tryd.func8, Tryd.ntmps8
  go_wp2_with fail
  refine (read_any m nv sv s1 s2 w hN hS h1 h2 l1 l2 te tr pe pr hes her hw2).mono ?_
  rintro e w1 ⟨hb, ⟨a, b, r1, r2, rfl⟩ | ⟨k, E, hk, rfl, hE⟩⟩
  · go_wp2
    go_quiet (fail)
    go_wp2
    refine bodyPost_ret (v := okTuple a b) (by simp [results, Tryd.results8, go_sem, okTuple]) rfl ?_
    refine ⟨?_, .inl ⟨a, b, r1, r2, rfl⟩⟩
    exact below_drewN (hb.alloc hb.size _) _
  · have c0 := cell_of_row _ _ 0 _ _ _ hE
    have c1 := cell_of_row _ _ 1 _ _ _ hE
    have c2 := cell_of_row _ _ 2 _ _ _ hE
    have c3 := cell_of_row _ _ 3 _ _ _ hE
    simp at c0 c1 c2 c3
    have hlt := (Array.getElem?_eq_some_iff.1 hE).1
    clear hE
    have has := as39
    go_wp2
    go_quiet (fail)
    go_wp2
    refine bodyPost_ret (v := noTuple k) (by simp [results, Tryd.results8, go_sem, noTuple]) rfl ?_
    exact ⟨below_drewN (hb.alloc hb.size _) _, .inr ⟨k, hk, rfl⟩⟩

end Go.Proofs.Qxb6629134aDoor
