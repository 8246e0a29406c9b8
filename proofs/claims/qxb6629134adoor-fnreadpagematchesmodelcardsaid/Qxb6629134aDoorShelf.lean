/-
  THE SHELF's CONTRACT ON strconv.ParseInt LAID AT THIS SEAT's PROGRAM, in plain words (written by the kit's lay-plain.mjs for this program, put into the seat's namespace): the table of numbers and one theorem, a field a fact of the program's own or the kernel's comparison; then the three contracts in the program's own numbers.
-/
import Derived.Shelf.Strconv.ParseIntPublic10
import Derived.Ground.NamesProg
import Derived.Test.Qxb6629134aDoorProg
namespace Go.Proofs.Qxb6629134aDoor
open Go.Shelf
def lays_ren : Go.Shelf.Ren := ⟨fun | 174 => 15 | 247 => 16 | 245 => 17 | 287 => 18 | 279 => 19 | 280 => 20 | 281 => 21 | 282 => 22 | 321 => 23 | 322 => 24 | 316 => 25 | 171 => 27 | 205 => 26 | 243 => 28 | 246 => 29 | 283 => 30 | 284 => 31 | 285 => 32 | 286 => 33 | 129 => 35 | 317 => 34 | 318 => 36 | 319 => 37 | 320 => 38 | 337 => 39 | 338 => 40 | n => n, fun | 9 => 9 | 3 => 3 | 2 => 2 | 75 => 36 | 85 => 48 | 4 => 4 | 167 => 51 | 5 => 5 | 53 => 52 | 175 => 53 | 46 => 55 | 168 => 56 | 37 => 60 | 0 => 0 | 210 => 63 | 21 => 21 | 127 => 66 | 145 => 69 | 143 => 67 | 171 => 71 | 173 => 74 | 212 => 78 | 51 => 79 | 20 => 20 | 213 => 80 | 232 => 84 | 233 => 85 | 80 => 88 | n => n, fun | 15 => 0 | 16 => 1 | 17 => 2 | 18 => 3 | 19 => 4 | n => n⟩
theorem lays : Go.Proofs.LaysC.n174 Tryd.prog lays_ren := {
  mixed := by kernel_rfl
  f129 := Tryd.func35.trans (congrArg some (by kernel_rfl))
  f171 := Tryd.func27.trans (congrArg some (by kernel_rfl))
  f174 := Tryd.func15.trans (congrArg some (by kernel_rfl))
  f205 := Tryd.func26.trans (congrArg some (by kernel_rfl))
  f243 := Tryd.func28.trans (congrArg some (by kernel_rfl))
  f245 := Tryd.func17.trans (congrArg some (by kernel_rfl))
  f246 := Tryd.func29.trans (congrArg some (by kernel_rfl))
  f247 := Tryd.func16.trans (congrArg some (by kernel_rfl))
  f279 := Tryd.func19.trans (congrArg some (by kernel_rfl))
  f280 := Tryd.func20.trans (congrArg some (by kernel_rfl))
  f281 := Tryd.func21.trans (congrArg some (by kernel_rfl))
  f282 := Tryd.func22.trans (congrArg some (by kernel_rfl))
  f283 := Tryd.func30.trans (congrArg some (by kernel_rfl))
  f284 := Tryd.func31.trans (congrArg some (by kernel_rfl))
  f285 := Tryd.func32.trans (congrArg some (by kernel_rfl))
  f286 := Tryd.func33.trans (congrArg some (by kernel_rfl))
  f287 := Tryd.func18.trans (congrArg some (by kernel_rfl))
  f316 := Tryd.func25.trans (congrArg some (by kernel_rfl))
  f317 := Tryd.func34.trans (congrArg some (by kernel_rfl))
  f318 := Tryd.func36.trans (congrArg some (by kernel_rfl))
  f319 := Tryd.func37.trans (congrArg some (by kernel_rfl))
  f320 := Tryd.func38.trans (congrArg some (by kernel_rfl))
  f321 := Tryd.func23.trans (congrArg some (by kernel_rfl))
  f322 := Tryd.func24.trans (congrArg some (by kernel_rfl))
  f337 := Tryd.func39.trans (congrArg some (by kernel_rfl))
  f338 := Tryd.func40.trans (congrArg some (by kernel_rfl))
  t0 := Tryd.underlying0
  a0 := Tryd.isAgg0
  z0 := Tryd.sizeOf0
  v0 := Tryd.zeroValue0
  t2 := Tryd.underlying2
  a2 := Tryd.isAgg2
  z2 := Tryd.sizeOf2
  v2 := Tryd.zeroValue2
  t3 := Tryd.underlying3
  a3 := Tryd.isAgg3
  z3 := Tryd.sizeOf3
  v3 := Tryd.zeroValue3
  t4 := Tryd.underlying4
  a4 := Tryd.isAgg4
  z4 := Tryd.sizeOf4
  v4 := Tryd.zeroValue4
  t5 := Tryd.underlying5
  a5 := Tryd.isAgg5
  z5 := Tryd.sizeOf5
  v5 := Tryd.zeroValue5
  t9 := Tryd.underlying9
  a9 := Tryd.isAgg9
  z9 := Tryd.sizeOf9
  v9 := Tryd.zeroValue9
  t20 := Tryd.underlying20
  a20 := Tryd.isAgg20
  z20 := Tryd.sizeOf20
  v20 := Tryd.zeroValue20
  t21 := Tryd.underlying21
  a21 := Tryd.isAgg21
  z21 := Tryd.sizeOf21
  v21 := Tryd.zeroValue21
  t37 := Tryd.underlying60
  a37 := Tryd.isAgg60
  z37 := Tryd.sizeOf60
  v37 := Tryd.zeroValue60
  t46 := Tryd.underlying55
  a46 := Tryd.isAgg55
  z46 := Tryd.sizeOf55
  v46 := Tryd.zeroValue55
  t51 := Tryd.underlying79
  a51 := Tryd.isAgg79
  z51 := Tryd.sizeOf79
  v51 := Tryd.zeroValue79
  t53 := Tryd.underlying52
  a53 := Tryd.isAgg52
  z53 := Tryd.sizeOf52
  v53 := Tryd.zeroValue52
  t75 := Tryd.underlying36
  a75 := Tryd.isAgg36
  z75 := Tryd.sizeOf36
  v75 := Tryd.zeroValue36
  t85 := Tryd.underlying48
  a85 := Tryd.isAgg48
  z85 := Tryd.sizeOf48
  v85 := Tryd.zeroValue48
  t127 := Tryd.underlying66
  a127 := Tryd.isAgg66
  z127 := Tryd.sizeOf66
  v127 := Tryd.zeroValue66
  t143 := Tryd.underlying67
  a143 := Tryd.isAgg67
  z143 := Tryd.sizeOf67
  v143 := Tryd.zeroValue67
  t145 := Tryd.underlying69
  a145 := Tryd.isAgg69
  z145 := Tryd.sizeOf69
  v145 := Tryd.zeroValue69
  t167 := Tryd.underlying51
  a167 := Tryd.isAgg51
  z167 := Tryd.sizeOf51
  v167 := Tryd.zeroValue51
  t168 := Tryd.underlying56
  a168 := Tryd.isAgg56
  z168 := Tryd.sizeOf56
  v168 := Tryd.zeroValue56
  t171 := Tryd.underlying71
  a171 := Tryd.isAgg71
  z171 := Tryd.sizeOf71
  v171 := Tryd.zeroValue71
  t173 := Tryd.underlying74
  a173 := Tryd.isAgg74
  z173 := Tryd.sizeOf74
  v173 := Tryd.zeroValue74
  t175 := Tryd.underlying53
  a175 := Tryd.isAgg53
  z175 := Tryd.sizeOf53
  v175 := Tryd.zeroValue53
  t210 := Tryd.underlying63
  a210 := Tryd.isAgg63
  z210 := Tryd.sizeOf63
  v210 := Tryd.zeroValue63
  t212 := Tryd.underlying78
  a212 := Tryd.isAgg78
  z212 := Tryd.sizeOf78
  v212 := Tryd.zeroValue78
  t213 := Tryd.underlying80
  a213 := Tryd.isAgg80
  z213 := Tryd.sizeOf80
  t232 := Tryd.underlying84
  a232 := Tryd.isAgg84
  z232 := Tryd.sizeOf84
  v232 := Tryd.zeroValue84
  t233 := Tryd.underlying85
  a233 := Tryd.isAgg85
  z233 := Tryd.sizeOf85
  v233 := Tryd.zeroValue85
  g15 := by kernel_rfl
  g16 := by kernel_rfl
  g17 := by kernel_rfl
  g18 := by kernel_rfl
  g19 := by kernel_rfl
  t80 := Tryd.underlying88
  a80 := Tryd.isAgg88
  z80 := Tryd.sizeOf88
  v80 := Tryd.zeroValue88
  i0 := by kernel_rfl
  i2 := by kernel_rfl
  i3 := by kernel_rfl
  i4 := by kernel_rfl
  i5 := by kernel_rfl
  i9 := by kernel_rfl
  i20 := by kernel_rfl
  i21 := by kernel_rfl
  i37 := by kernel_rfl
  i46 := by kernel_rfl
  i51 := by kernel_rfl
  i53 := by kernel_rfl
  i75 := by kernel_rfl
  i80 := by kernel_rfl
  i85 := by kernel_rfl
  i127 := by kernel_rfl
  i143 := by kernel_rfl
  i145 := by kernel_rfl
  i167 := by kernel_rfl
  i168 := by kernel_rfl
  i171 := by kernel_rfl
  i173 := by kernel_rfl
  i175 := by kernel_rfl
  i210 := by kernel_rfl
  i212 := by kernel_rfl
  i232 := by kernel_rfl
  i233 := by kernel_rfl
  m15 := by kernel_rfl
  m16 := by kernel_rfl
  m17 := by kernel_rfl
  m18 := by kernel_rfl
  m19 := by kernel_rfl
  c0 := by kernel_rfl
  c2 := by kernel_rfl
  c3 := by kernel_rfl
  c4 := by kernel_rfl
  c5 := by kernel_rfl
  c9 := by kernel_rfl
  c20 := by kernel_rfl
  c21 := by kernel_rfl
  c37 := by kernel_rfl
  c46 := by kernel_rfl
  c51 := by kernel_rfl
  c53 := by kernel_rfl
  c75 := by kernel_rfl
  c80 := by kernel_rfl
  c85 := by kernel_rfl
  c127 := by kernel_rfl
  c143 := by kernel_rfl
  c145 := by kernel_rfl
  c167 := by kernel_rfl
  c168 := by kernel_rfl
  c171 := by kernel_rfl
  c173 := by kernel_rfl
  c175 := by kernel_rfl
  c210 := by kernel_rfl
  c212 := by kernel_rfl
  c213 := by kernel_rfl
  c232 := by kernel_rfl
  c233 := by kernel_rfl }

open Go.RowKit

theorem parse_ok (s : ByteArray) (hmax : s.size ≤ 9223372036854775806) (v : Int) (h : Lib.parseIntB 32 s.data.toList = .ok v) (w : World) :
    Calls Tryd.prog 15 #[.string s, .int .i64 10, .int .i64 32] w fun e w' => e = .returned (.tuple #[.int .i64 v, .nilIface]) ∧ Below w.heap.size w w' := by
  refine (Any.strconv_ParseInt_10_at32_ok lays s hmax v h w).mono ?_
  rintro e w' ⟨rfl, rfl | ⟨t, rfl⟩⟩
  · exact ⟨rfl, Below.refl _ _⟩
  · exact ⟨rfl, Lib.bytesWorld_below _ _ _⟩

/-- no number of the size: an error that is not nil -/
theorem parse_no (s : ByteArray) (hlim : s.size ≤ 281474976710656) (h : ∀ v, Lib.parseIntB 32 s.data.toList ≠ .ok v) (w : World) (es er : Value)
    (hs : w.cell? ⟨0, 0, none⟩ = some es) (hr : w.cell? ⟨1, 0, none⟩ = some er) (hes : es = .nilIface ∨ ∃ te pe, es = .iface te pe) (her : er = .nilIface ∨ ∃ te pe, er = .iface te pe) :
    Calls Tryd.prog 15 #[.string s, .int .i64 10, .int .i64 32] w fun e w' => ∃ (n : Int) (N : Nat), e = .returned (.tuple #[.int .i64 n, .iface 56 (.pointer (some ⟨N, 0, none⟩))]) ∧ Below w.heap.size w w' := by
  generalize hp : Lib.parseIntB 32 s.data.toList = r at h
  rcases r with v | _ | _
  · exact absurd rfl (h v)
  · refine (Any.strconv_ParseInt_10_at32_syntax lays s hlim hp es w hs hes).mono ?_
    rintro e w' ⟨N, rfl, _, _, hb⟩
    exact ⟨0, N, rfl, hb⟩
  · refine (Any.strconv_ParseInt_10_at32_range lays s hlim hp er w hr her).mono ?_
    rintro e w' ⟨N, rfl, _, _, hb⟩
    exact ⟨_, N, rfl, hb⟩

end Go.Proofs.Qxb6629134aDoor
