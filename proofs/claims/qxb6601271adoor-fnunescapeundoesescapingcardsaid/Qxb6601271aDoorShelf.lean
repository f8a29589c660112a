/-
  DERIVED: THE SHELF's CONTRACTS AT THIS DUMP, IN PLAIN WORDS (tools/lay-plain.mjs out of 'TrydShelf.lean', which tools/lay-shelf.mjs wrote): THE SAME DECLARATIONS UNDER THE SAME NAMES: 'import', 'namespace', 'open', 'def', 'theorem' AND NOTHING ELSE: no command of the shelf's: FOR A HAND-IN. Each laying: the table of numbers ('.._ren') and one theorem, a field a fact of the dump's own or the kernel's comparison; each contract: ONE APPLICATION.
-/
import Derived.Shelf.Strings.Builder1
import Derived.Shelf.LaysM
import Derived.Shelf.Strconv.SyntaxError
import Derived.Shelf.LaysC
import Derived.Shelf.Strconv.ToError
import Derived.Shelf.Strconv.Lower
import Derived.Shelf.Strconv.RangeError
import Derived.Shelf.Strconv.ToErrorRange
import Derived.Test.Qxb6601271aDoorProg
namespace Go.Proofs
open Go.Shelf
def Tryd.lays169_ren : Go.Shelf.Ren := ⟨fun | 169 => 32 | n => n, fun | 70 => 47 | 9 => 9 | 0 => 0 | 72 => 49 | 37 => 23 | 127 => 62 | 3 => 3 | 5 => 5 | n => n, fun | n => n⟩
theorem Tryd.lays169 : Go.Proofs.Lays.n169 Tryd.prog Tryd.lays169_ren := {
  mixed := by kernel_rfl
  f169 := Tryd.func32.trans (congrArg some (by kernel_rfl))
  t0 := Tryd.underlying0
  a0 := Tryd.isAgg0
  z0 := Tryd.sizeOf0
  v0 := Tryd.zeroValue0
  t3 := Tryd.underlying3
  a3 := Tryd.isAgg3
  z3 := Tryd.sizeOf3
  v3 := Tryd.zeroValue3
  t9 := Tryd.underlying9
  a9 := Tryd.isAgg9
  z9 := Tryd.sizeOf9
  v9 := Tryd.zeroValue9
  t37 := Tryd.underlying23
  a37 := Tryd.isAgg23
  z37 := Tryd.sizeOf23
  v37 := Tryd.zeroValue23
  t70 := Tryd.underlying47
  a70 := Tryd.isAgg47
  z70 := Tryd.sizeOf47
  v70 := Tryd.zeroValue47
  t72 := Tryd.underlying49
  a72 := Tryd.isAgg49
  z72 := Tryd.sizeOf49
  v72 := Tryd.zeroValue49
  t127 := Tryd.underlying62
  a127 := Tryd.isAgg62
  z127 := Tryd.sizeOf62
  v127 := Tryd.zeroValue62 }
theorem Tryd.Builder_Extra_169 : Builder.Extra Tryd.prog Tryd.lays169_ren := {
  sizeBuilder := by kernel_rfl
  liesBuilder := by kernel_rfl
  t5 := Tryd.underlying5
  a5 := Tryd.isAgg5
  z5 := Tryd.sizeOf5
  v5 := Tryd.zeroValue5
  infoByte := by kernel_rfl
  cellsByte := by kernel_rfl
  sizeByte := by kernel_rfl
  neB5 := by decide }

open Go.RowKit in
/-- (*strings.Builder).String: "String returns the accumulated string.": WHATEVER THE BUILDER HOLDS. (LAID: no walk: one application.) -/
theorem Tryd.Builder_String_any (B b : Nat) (l : List UInt8) (w : World) (h : Lib.IsBuilder 49 5 B b (Lib.byteCells l) w) (hBw : B ≤ w.heap.size) :
    Calls Tryd.prog 32 #[.pointer (some ⟨b, 0, none⟩)] w fun e w' => e = .returned (.string ⟨l.toArray⟩) ∧ Below B w w' := Any.Builder_String_any Tryd.lays169 Tryd.Builder_Extra_169 B b l w h hBw
def Tryd.laysC245_ren : Go.Shelf.Ren := ⟨fun | 245 => 38 | 279 => 45 | 280 => 46 | 281 => 47 | 282 => 48 | 316 => 54 | 171 => 56 | 205 => 55 | 243 => 63 | 246 => 69 | 283 => 72 | 284 => 73 | 285 => 74 | 286 => 75 | 129 => 77 | 317 => 76 | 318 => 78 | 319 => 79 | 320 => 80 | 337 => 81 | 338 => 82 | n => n, fun | 9 => 9 | 3 => 3 | 75 => 52 | 167 => 67 | 4 => 4 | 168 => 69 | 210 => 83 | 37 => 23 | 0 => 0 | 127 => 62 | 145 => 103 | 143 => 101 | 2 => 2 | 171 => 113 | 53 => 50 | 5 => 5 | 173 => 116 | 212 => 119 | 51 => 79 | 20 => 20 | 213 => 120 | 46 => 46 | 232 => 124 | 233 => 125 | 80 => 56 | n => n, fun | 15 => 2 | 16 => 3 | 17 => 7 | 18 => 8 | 19 => 9 | n => n⟩
theorem Tryd.laysC245 : Go.Proofs.LaysC.n245 Tryd.prog Tryd.laysC245_ren := {
  mixed := by kernel_rfl
  f129 := Tryd.func77.trans (congrArg some (by kernel_rfl))
  f171 := Tryd.func56.trans (congrArg some (by kernel_rfl))
  f205 := Tryd.func55.trans (congrArg some (by kernel_rfl))
  f243 := Tryd.func63.trans (congrArg some (by kernel_rfl))
  f245 := Tryd.func38.trans (congrArg some (by kernel_rfl))
  f246 := Tryd.func69.trans (congrArg some (by kernel_rfl))
  f279 := Tryd.func45.trans (congrArg some (by kernel_rfl))
  f280 := Tryd.func46.trans (congrArg some (by kernel_rfl))
  f281 := Tryd.func47.trans (congrArg some (by kernel_rfl))
  f282 := Tryd.func48.trans (congrArg some (by kernel_rfl))
  f283 := Tryd.func72.trans (congrArg some (by kernel_rfl))
  f284 := Tryd.func73.trans (congrArg some (by kernel_rfl))
  f285 := Tryd.func74.trans (congrArg some (by kernel_rfl))
  f286 := Tryd.func75.trans (congrArg some (by kernel_rfl))
  f316 := Tryd.func54.trans (congrArg some (by kernel_rfl))
  f317 := Tryd.func76.trans (congrArg some (by kernel_rfl))
  f318 := Tryd.func78.trans (congrArg some (by kernel_rfl))
  f319 := Tryd.func79.trans (congrArg some (by kernel_rfl))
  f320 := Tryd.func80.trans (congrArg some (by kernel_rfl))
  f337 := Tryd.func81.trans (congrArg some (by kernel_rfl))
  f338 := Tryd.func82.trans (congrArg some (by kernel_rfl))
  t0 := Tryd.underlying0
  a0 := Tryd.isAgg0
  z0 := Tryd.sizeOf0
  v0 := Tryd.zeroValue0
  t2 := Tryd.underlying2
  a2 := Tryd.isAgg2
  z2 := Tryd.sizeOf2
  v2 := Tryd.zeroValue2
  t3 := Tryd.underlying3
  a3 := Tryd.isAgg3
  z3 := Tryd.sizeOf3
  v3 := Tryd.zeroValue3
  t4 := Tryd.underlying4
  a4 := Tryd.isAgg4
  z4 := Tryd.sizeOf4
  v4 := Tryd.zeroValue4
  t5 := Tryd.underlying5
  a5 := Tryd.isAgg5
  z5 := Tryd.sizeOf5
  v5 := Tryd.zeroValue5
  t9 := Tryd.underlying9
  a9 := Tryd.isAgg9
  z9 := Tryd.sizeOf9
  v9 := Tryd.zeroValue9
  t20 := Tryd.underlying20
  a20 := Tryd.isAgg20
  z20 := Tryd.sizeOf20
  v20 := Tryd.zeroValue20
  t37 := Tryd.underlying23
  a37 := Tryd.isAgg23
  z37 := Tryd.sizeOf23
  v37 := Tryd.zeroValue23
  t46 := Tryd.underlying46
  a46 := Tryd.isAgg46
  z46 := Tryd.sizeOf46
  v46 := Tryd.zeroValue46
  t51 := Tryd.underlying79
  a51 := Tryd.isAgg79
  z51 := Tryd.sizeOf79
  v51 := Tryd.zeroValue79
  t53 := Tryd.underlying50
  a53 := Tryd.isAgg50
  z53 := Tryd.sizeOf50
  v53 := Tryd.zeroValue50
  t75 := Tryd.underlying52
  a75 := Tryd.isAgg52
  z75 := Tryd.sizeOf52
  v75 := Tryd.zeroValue52
  t127 := Tryd.underlying62
  a127 := Tryd.isAgg62
  z127 := Tryd.sizeOf62
  v127 := Tryd.zeroValue62
  t143 := Tryd.underlying101
  a143 := Tryd.isAgg101
  z143 := Tryd.sizeOf101
  v143 := Tryd.zeroValue101
  t145 := Tryd.underlying103
  a145 := Tryd.isAgg103
  z145 := Tryd.sizeOf103
  v145 := Tryd.zeroValue103
  t167 := Tryd.underlying67
  a167 := Tryd.isAgg67
  z167 := Tryd.sizeOf67
  v167 := Tryd.zeroValue67
  t168 := Tryd.underlying69
  a168 := Tryd.isAgg69
  z168 := Tryd.sizeOf69
  v168 := Tryd.zeroValue69
  t171 := Tryd.underlying113
  a171 := Tryd.isAgg113
  z171 := Tryd.sizeOf113
  v171 := Tryd.zeroValue113
  t173 := Tryd.underlying116
  a173 := Tryd.isAgg116
  z173 := Tryd.sizeOf116
  v173 := Tryd.zeroValue116
  t210 := Tryd.underlying83
  a210 := Tryd.isAgg83
  z210 := Tryd.sizeOf83
  v210 := Tryd.zeroValue83
  t212 := Tryd.underlying119
  a212 := Tryd.isAgg119
  z212 := Tryd.sizeOf119
  v212 := Tryd.zeroValue119
  t213 := Tryd.underlying120
  a213 := Tryd.isAgg120
  z213 := Tryd.sizeOf120
  t232 := Tryd.underlying124
  a232 := Tryd.isAgg124
  z232 := Tryd.sizeOf124
  v232 := Tryd.zeroValue124
  t233 := Tryd.underlying125
  a233 := Tryd.isAgg125
  z233 := Tryd.sizeOf125
  v233 := Tryd.zeroValue125
  g15 := by kernel_rfl
  g16 := by kernel_rfl
  g17 := by kernel_rfl
  g18 := by kernel_rfl
  g19 := by kernel_rfl
  t80 := Tryd.underlying56
  a80 := Tryd.isAgg56
  z80 := Tryd.sizeOf56
  v80 := Tryd.zeroValue56
  i0 := by kernel_rfl
  i2 := by kernel_rfl
  i3 := by kernel_rfl
  i4 := by kernel_rfl
  i5 := by kernel_rfl
  i9 := by kernel_rfl
  i20 := by kernel_rfl
  i37 := by kernel_rfl
  i46 := by kernel_rfl
  i51 := by kernel_rfl
  i53 := by kernel_rfl
  i75 := by kernel_rfl
  i80 := by kernel_rfl
  i127 := by kernel_rfl
  i143 := by kernel_rfl
  i145 := by kernel_rfl
  i167 := by kernel_rfl
  i168 := by kernel_rfl
  i171 := by kernel_rfl
  i173 := by kernel_rfl
  i210 := by kernel_rfl
  i212 := by kernel_rfl
  i232 := by kernel_rfl
  i233 := by kernel_rfl
  m15 := by kernel_rfl
  m16 := by kernel_rfl
  m17 := by kernel_rfl
  m18 := by kernel_rfl
  m19 := by kernel_rfl
  c0 := by kernel_rfl
  c2 := by kernel_rfl
  c3 := by kernel_rfl
  c4 := by kernel_rfl
  c5 := by kernel_rfl
  c9 := by kernel_rfl
  c20 := by kernel_rfl
  c37 := by kernel_rfl
  c46 := by kernel_rfl
  c51 := by kernel_rfl
  c53 := by kernel_rfl
  c75 := by kernel_rfl
  c80 := by kernel_rfl
  c127 := by kernel_rfl
  c143 := by kernel_rfl
  c145 := by kernel_rfl
  c167 := by kernel_rfl
  c168 := by kernel_rfl
  c171 := by kernel_rfl
  c173 := by kernel_rfl
  c210 := by kernel_rfl
  c212 := by kernel_rfl
  c213 := by kernel_rfl
  c232 := by kernel_rfl
  c233 := by kernel_rfl }
open Go.RowKit in
/-- strconv.toError, at the inner package's ErrSyntax: 'syntaxError(fn, s)' as an error: A *NumError IN A NEW BLOCK. (LAID: no walk: one application.) -/
theorem Tryd.strconv_toError_syntax (fn s : ByteArray) (base bits : Int) (ev : Value) (w : World) (hlim : s.size ≤ 281474976710656) (hv : w.cell? ⟨2, 0, none⟩ = some ev) (hev : ev = .nilIface ∨ ∃ te pe, ev = .iface te pe) :
    Calls Tryd.prog 38 #[.string fn, .string s, .int .i64 base, .int .i64 bits, .iface 67 (.int .i64 2)] w fun e w' => ∃ N, e = .returned (.iface 69 (.pointer (some ⟨N, 0, none⟩))) ∧ w.heap.size ≤ N ∧ w'.heap[N]? = some (.cells #[.string fn, .string s, ev] 83 (0, 0)) ∧ Below w.heap.size w w' := Any.strconv_toError_syntax Tryd.laysC245 fn s base bits ev w hlim hv hev
def Tryd.lays321_ren : Go.Shelf.Ren := ⟨fun | 321 => 43 | n => n, fun | 5 => 5 | n => n, fun | n => n⟩
theorem Tryd.lays321 : Go.Proofs.Lays.n321 Tryd.prog Tryd.lays321_ren := {
  mixed := by kernel_rfl
  f321 := Tryd.func43.trans (congrArg some (by kernel_rfl))
  t5 := Tryd.underlying5
  a5 := Tryd.isAgg5
  z5 := Tryd.sizeOf5
  v5 := Tryd.zeroValue5 }
open Go.RowKit in
/-- internal/strconv.lower: 'c | ('x' - 'X')': the bit 32 set. The world is as it was. (LAID: no walk: one application.) -/
theorem Tryd.internal_strconv_lower (c : Int) (w : World) :
    Calls Tryd.prog 43 #[.int .u8 c] w fun e w' => e = .returned (.int .u8 (bits .or .u8 c 32)) ∧ w' = w := Any.internal_strconv_lower Tryd.lays321 c w
open Go.RowKit in
/-- strconv.toError, at the inner package's ErrRange: 'rangeError(fn, s)' as an error: A *NumError IN A NEW BLOCK. (LAID: no walk: one application.) -/
theorem Tryd.strconv_toError_range (fn s : ByteArray) (base bits : Int) (ev : Value) (w : World) (hlim : s.size ≤ 281474976710656) (hv : w.cell? ⟨3, 0, none⟩ = some ev) (hev : ev = .nilIface ∨ ∃ te pe, ev = .iface te pe) :
    Calls Tryd.prog 38 #[.string fn, .string s, .int .i64 base, .int .i64 bits, .iface 67 (.int .i64 1)] w fun e w' => ∃ N, e = .returned (.iface 69 (.pointer (some ⟨N, 0, none⟩))) ∧ w.heap.size ≤ N ∧ w'.heap[N]? = some (.cells #[.string fn, .string s, ev] 83 (0, 0)) ∧ Below w.heap.size w w' := Any.strconv_toError_range Tryd.laysC245 fn s base bits ev w hlim hv hev
end Go.Proofs
