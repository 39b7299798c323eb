/-
  THE SHELF's CONTRACTS of (*strings.Builder).String and strconv.toError AT THIS DUMP, in plain words: written by the kit's own tools (lay-shelf.mjs, then lay-plain.mjs), cut down to what is used.
-/
import Derived.Shelf.Strings.Builder1
import Derived.Shelf.LaysC
import Derived.Shelf.Strconv.ToError
import Derived.Shelf.Strconv.ToErrorRange
import Derived.Test.Qxb6604225aDoorProg
namespace Go.Proofs
open Go.Shelf
def Tryd.lays169_ren : Go.Shelf.Ren := ⟨fun | 169 => 12 | n => n, fun | 70 => 26 | 9 => 9 | 0 => 0 | 72 => 28 | 37 => 24 | 127 => 37 | 3 => 3 | 5 => 5 | n => n, fun | n => n⟩
theorem Tryd.lays169 : Go.Proofs.Lays.n169 Tryd.prog Tryd.lays169_ren := {
  mixed := by kernel_rfl
  f169 := Tryd.func12.trans (congrArg some (by kernel_rfl))
  t0 := Tryd.underlying0
  a0 := Tryd.isAgg0
  z0 := Tryd.sizeOf0
  v0 := Tryd.zeroValue0
  t3 := Tryd.underlying3
  a3 := Tryd.isAgg3
  z3 := Tryd.sizeOf3
  v3 := Tryd.zeroValue3
  t9 := Tryd.underlying9
  a9 := Tryd.isAgg9
  z9 := Tryd.sizeOf9
  v9 := Tryd.zeroValue9
  t37 := Tryd.underlying24
  a37 := Tryd.isAgg24
  z37 := Tryd.sizeOf24
  v37 := Tryd.zeroValue24
  t70 := Tryd.underlying26
  a70 := Tryd.isAgg26
  z70 := Tryd.sizeOf26
  v70 := Tryd.zeroValue26
  t72 := Tryd.underlying28
  a72 := Tryd.isAgg28
  z72 := Tryd.sizeOf28
  v72 := Tryd.zeroValue28
  t127 := Tryd.underlying37
  a127 := Tryd.isAgg37
  z127 := Tryd.sizeOf37
  v127 := Tryd.zeroValue37 }
theorem Tryd.Builder_Extra_169 : Builder.Extra Tryd.prog Tryd.lays169_ren := {
  sizeBuilder := by kernel_rfl
  liesBuilder := by kernel_rfl
  t5 := Tryd.underlying5
  a5 := Tryd.isAgg5
  z5 := Tryd.sizeOf5
  v5 := Tryd.zeroValue5
  infoByte := by kernel_rfl
  cellsByte := by kernel_rfl
  sizeByte := by kernel_rfl
  neB5 := by decide }
open Go.RowKit in
/-- (*strings.Builder).String: "String returns the accumulated string.": WHATEVER THE BUILDER HOLDS. (LAID: no walk: one application.) -/
theorem Tryd.Builder_String_any (B b : Nat) (l : List UInt8) (w : World) (h : Lib.IsBuilder 28 5 B b (Lib.byteCells l) w) (hBw : B ≤ w.heap.size) :
    Calls Tryd.prog 12 #[.pointer (some ⟨b, 0, none⟩)] w fun e w' => e = .returned (.string ⟨l.toArray⟩) ∧ Below B w w' := Any.Builder_String_any Tryd.lays169 Tryd.Builder_Extra_169 B b l w h hBw
def Tryd.laysC245_ren : Go.Shelf.Ren := ⟨fun | 245 => 14 | 279 => 18 | 280 => 19 | 281 => 20 | 282 => 21 | 316 => 23 | 171 => 25 | 205 => 24 | 243 => 26 | 246 => 27 | 283 => 28 | 284 => 29 | 285 => 30 | 286 => 31 | 129 => 33 | 317 => 32 | 318 => 34 | 319 => 35 | 320 => 36 | 337 => 37 | 338 => 38 | n => n, fun | 9 => 9 | 3 => 3 | 75 => 31 | 167 => 38 | 4 => 4 | 168 => 40 | 210 => 46 | 37 => 24 | 0 => 0 | 127 => 37 | 145 => 51 | 143 => 49 | 2 => 2 | 171 => 53 | 53 => 29 | 5 => 5 | 173 => 56 | 212 => 60 | 51 => 61 | 20 => 20 | 213 => 62 | 46 => 25 | 232 => 66 | 233 => 67 | 80 => 35 | n => n, fun | 15 => 0 | 16 => 1 | 17 => 2 | 18 => 3 | 19 => 4 | n => n⟩
theorem Tryd.laysC245 : Go.Proofs.LaysC.n245 Tryd.prog Tryd.laysC245_ren := {
  mixed := by kernel_rfl
  f129 := Tryd.func33.trans (congrArg some (by kernel_rfl))
  f171 := Tryd.func25.trans (congrArg some (by kernel_rfl))
  f205 := Tryd.func24.trans (congrArg some (by kernel_rfl))
  f243 := Tryd.func26.trans (congrArg some (by kernel_rfl))
  f245 := Tryd.func14.trans (congrArg some (by kernel_rfl))
  f246 := Tryd.func27.trans (congrArg some (by kernel_rfl))
  f279 := Tryd.func18.trans (congrArg some (by kernel_rfl))
  f280 := Tryd.func19.trans (congrArg some (by kernel_rfl))
  f281 := Tryd.func20.trans (congrArg some (by kernel_rfl))
  f282 := Tryd.func21.trans (congrArg some (by kernel_rfl))
  f283 := Tryd.func28.trans (congrArg some (by kernel_rfl))
  f284 := Tryd.func29.trans (congrArg some (by kernel_rfl))
  f285 := Tryd.func30.trans (congrArg some (by kernel_rfl))
  f286 := Tryd.func31.trans (congrArg some (by kernel_rfl))
  f316 := Tryd.func23.trans (congrArg some (by kernel_rfl))
  f317 := Tryd.func32.trans (congrArg some (by kernel_rfl))
  f318 := Tryd.func34.trans (congrArg some (by kernel_rfl))
  f319 := Tryd.func35.trans (congrArg some (by kernel_rfl))
  f320 := Tryd.func36.trans (congrArg some (by kernel_rfl))
  f337 := Tryd.func37.trans (congrArg some (by kernel_rfl))
  f338 := Tryd.func38.trans (congrArg some (by kernel_rfl))
  t0 := Tryd.underlying0
  a0 := Tryd.isAgg0
  z0 := Tryd.sizeOf0
  v0 := Tryd.zeroValue0
  t2 := Tryd.underlying2
  a2 := Tryd.isAgg2
  z2 := Tryd.sizeOf2
  v2 := Tryd.zeroValue2
  t3 := Tryd.underlying3
  a3 := Tryd.isAgg3
  z3 := Tryd.sizeOf3
  v3 := Tryd.zeroValue3
  t4 := Tryd.underlying4
  a4 := Tryd.isAgg4
  z4 := Tryd.sizeOf4
  v4 := Tryd.zeroValue4
  t5 := Tryd.underlying5
  a5 := Tryd.isAgg5
  z5 := Tryd.sizeOf5
  v5 := Tryd.zeroValue5
  t9 := Tryd.underlying9
  a9 := Tryd.isAgg9
  z9 := Tryd.sizeOf9
  v9 := Tryd.zeroValue9
  t20 := Tryd.underlying20
  a20 := Tryd.isAgg20
  z20 := Tryd.sizeOf20
  v20 := Tryd.zeroValue20
  t37 := Tryd.underlying24
  a37 := Tryd.isAgg24
  z37 := Tryd.sizeOf24
  v37 := Tryd.zeroValue24
  t46 := Tryd.underlying25
  a46 := Tryd.isAgg25
  z46 := Tryd.sizeOf25
  v46 := Tryd.zeroValue25
  t51 := Tryd.underlying61
  a51 := Tryd.isAgg61
  z51 := Tryd.sizeOf61
  v51 := Tryd.zeroValue61
  t53 := Tryd.underlying29
  a53 := Tryd.isAgg29
  z53 := Tryd.sizeOf29
  v53 := Tryd.zeroValue29
  t75 := Tryd.underlying31
  a75 := Tryd.isAgg31
  z75 := Tryd.sizeOf31
  v75 := Tryd.zeroValue31
  t127 := Tryd.underlying37
  a127 := Tryd.isAgg37
  z127 := Tryd.sizeOf37
  v127 := Tryd.zeroValue37
  t143 := Tryd.underlying49
  a143 := Tryd.isAgg49
  z143 := Tryd.sizeOf49
  v143 := Tryd.zeroValue49
  t145 := Tryd.underlying51
  a145 := Tryd.isAgg51
  z145 := Tryd.sizeOf51
  v145 := Tryd.zeroValue51
  t167 := Tryd.underlying38
  a167 := Tryd.isAgg38
  z167 := Tryd.sizeOf38
  v167 := Tryd.zeroValue38
  t168 := Tryd.underlying40
  a168 := Tryd.isAgg40
  z168 := Tryd.sizeOf40
  v168 := Tryd.zeroValue40
  t171 := Tryd.underlying53
  a171 := Tryd.isAgg53
  z171 := Tryd.sizeOf53
  v171 := Tryd.zeroValue53
  t173 := Tryd.underlying56
  a173 := Tryd.isAgg56
  z173 := Tryd.sizeOf56
  v173 := Tryd.zeroValue56
  t210 := Tryd.underlying46
  a210 := Tryd.isAgg46
  z210 := Tryd.sizeOf46
  v210 := Tryd.zeroValue46
  t212 := Tryd.underlying60
  a212 := Tryd.isAgg60
  z212 := Tryd.sizeOf60
  v212 := Tryd.zeroValue60
  t213 := Tryd.underlying62
  a213 := Tryd.isAgg62
  z213 := Tryd.sizeOf62
  t232 := Tryd.underlying66
  a232 := Tryd.isAgg66
  z232 := Tryd.sizeOf66
  v232 := Tryd.zeroValue66
  t233 := Tryd.underlying67
  a233 := Tryd.isAgg67
  z233 := Tryd.sizeOf67
  v233 := Tryd.zeroValue67
  g15 := by kernel_rfl
  g16 := by kernel_rfl
  g17 := by kernel_rfl
  g18 := by kernel_rfl
  g19 := by kernel_rfl
  t80 := Tryd.underlying35
  a80 := Tryd.isAgg35
  z80 := Tryd.sizeOf35
  v80 := Tryd.zeroValue35
  i0 := by kernel_rfl
  i2 := by kernel_rfl
  i3 := by kernel_rfl
  i4 := by kernel_rfl
  i5 := by kernel_rfl
  i9 := by kernel_rfl
  i20 := by kernel_rfl
  i37 := by kernel_rfl
  i46 := by kernel_rfl
  i51 := by kernel_rfl
  i53 := by kernel_rfl
  i75 := by kernel_rfl
  i80 := by kernel_rfl
  i127 := by kernel_rfl
  i143 := by kernel_rfl
  i145 := by kernel_rfl
  i167 := by kernel_rfl
  i168 := by kernel_rfl
  i171 := by kernel_rfl
  i173 := by kernel_rfl
  i210 := by kernel_rfl
  i212 := by kernel_rfl
  i232 := by kernel_rfl
  i233 := by kernel_rfl
  m15 := by kernel_rfl
  m16 := by kernel_rfl
  m17 := by kernel_rfl
  m18 := by kernel_rfl
  m19 := by kernel_rfl
  c0 := by kernel_rfl
  c2 := by kernel_rfl
  c3 := by kernel_rfl
  c4 := by kernel_rfl
  c5 := by kernel_rfl
  c9 := by kernel_rfl
  c20 := by kernel_rfl
  c37 := by kernel_rfl
  c46 := by kernel_rfl
  c51 := by kernel_rfl
  c53 := by kernel_rfl
  c75 := by kernel_rfl
  c80 := by kernel_rfl
  c127 := by kernel_rfl
  c143 := by kernel_rfl
  c145 := by kernel_rfl
  c167 := by kernel_rfl
  c168 := by kernel_rfl
  c171 := by kernel_rfl
  c173 := by kernel_rfl
  c210 := by kernel_rfl
  c212 := by kernel_rfl
  c213 := by kernel_rfl
  c232 := by kernel_rfl
  c233 := by kernel_rfl }
open Go.RowKit in
/-- strconv.toError, at the inner package's ErrSyntax: 'syntaxError(fn, s)' as an error: A *NumError IN A NEW BLOCK. (LAID: no walk: one application.) -/
theorem Tryd.strconv_toError_syntax (fn s : ByteArray) (base bits : Int) (ev : Value) (w : World) (hlim : s.size ≤ 281474976710656) (hv : w.cell? ⟨0, 0, none⟩ = some ev) (hev : ev = .nilIface ∨ ∃ te pe, ev = .iface te pe) :
    Calls Tryd.prog 14 #[.string fn, .string s, .int .i64 base, .int .i64 bits, .iface 38 (.int .i64 2)] w fun e w' => ∃ N, e = .returned (.iface 40 (.pointer (some ⟨N, 0, none⟩))) ∧ w.heap.size ≤ N ∧ w'.heap[N]? = some (.cells #[.string fn, .string s, ev] 46 (0, 0)) ∧ Below w.heap.size w w' := Any.strconv_toError_syntax Tryd.laysC245 fn s base bits ev w hlim hv hev
open Go.RowKit in
/-- strconv.toError, at the inner package's ErrRange: 'rangeError(fn, s)' as an error: A *NumError IN A NEW BLOCK. (LAID: no walk: one application.) -/
theorem Tryd.strconv_toError_range (fn s : ByteArray) (base bits : Int) (ev : Value) (w : World) (hlim : s.size ≤ 281474976710656) (hv : w.cell? ⟨1, 0, none⟩ = some ev) (hev : ev = .nilIface ∨ ∃ te pe, ev = .iface te pe) :
    Calls Tryd.prog 14 #[.string fn, .string s, .int .i64 base, .int .i64 bits, .iface 38 (.int .i64 1)] w fun e w' => ∃ N, e = .returned (.iface 40 (.pointer (some ⟨N, 0, none⟩))) ∧ w.heap.size ≤ N ∧ w'.heap[N]? = some (.cells #[.string fn, .string s, ev] 46 (0, 0)) ∧ Below w.heap.size w w' := Any.strconv_toError_range Tryd.laysC245 fn s base bits ev w hlim hv hev
end Go.Proofs
