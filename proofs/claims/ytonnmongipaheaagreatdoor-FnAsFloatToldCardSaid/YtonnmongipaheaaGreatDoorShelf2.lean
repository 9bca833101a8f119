/- DERIVED: THE SHELF's CONTRACTS AT THIS DUMP, IN PLAIN WORDS (tools/lay-plain.mjs out of 'YtonnmongipaheaaGreatDoorShelfB.lean', which tools/lay-shelf.mjs wrote): THE SAME DECLARATIONS UNDER THE SAME NAMES: 'import', 'namespace', 'open', 'def', 'theorem' AND NOTHING ELSE: no command of the shelf's: FOR A HAND-IN. Each laying: the table of numbers ('.._ren') and one theorem, a field a fact of the dump's own or the kernel's comparison; each contract: ONE APPLICATION. -/
import Derived.Shelf.LaysM
import Derived.Shelf.Strconv.Clone
import Derived.Shelf.Strconv.SyntaxError
import Derived.Shelf.Strconv.RangeError
import Derived.Test.YtonnmongipaheaaGreatDoorProg
namespace Go.Proofs
open Go.Shelf
def Tryz.laysM316_ren : Go.Shelf.Ren := ⟨fun | 316 => 68 | n => n, fun | 9 => 9 | 3 => 3 | 4 => 4 | 37 => 134 | 0 => 0 | 127 => 135 | 5 => 5 | n => n, fun | n => n⟩
theorem Tryz.laysM316 : Go.Proofs.LaysM.n316 Tryz.prog Tryz.laysM316_ren := {
  mixed := by kernel_rfl
  f316 := Tryz.func68.trans (congrArg some (by kernel_rfl))
  t0 := Tryz.underlying0
  a0 := Tryz.isAgg0
  z0 := Tryz.sizeOf0
  v0 := Tryz.zeroValue0
  t3 := Tryz.underlying3
  a3 := Tryz.isAgg3
  z3 := Tryz.sizeOf3
  v3 := Tryz.zeroValue3
  t4 := Tryz.underlying4
  a4 := Tryz.isAgg4
  z4 := Tryz.sizeOf4
  v4 := Tryz.zeroValue4
  t9 := Tryz.underlying9
  a9 := Tryz.isAgg9
  z9 := Tryz.sizeOf9
  v9 := Tryz.zeroValue9
  t37 := Tryz.underlying134
  a37 := Tryz.isAgg134
  z37 := Tryz.sizeOf134
  v37 := Tryz.zeroValue134
  t127 := Tryz.underlying135
  a127 := Tryz.isAgg135
  z127 := Tryz.sizeOf135
  v127 := Tryz.zeroValue135
  t5 := Tryz.underlying5
  a5 := Tryz.isAgg5
  z5 := Tryz.sizeOf5
  v5 := Tryz.zeroValue5
  i0 := by kernel_rfl
  i3 := by kernel_rfl
  i4 := by kernel_rfl
  i5 := by kernel_rfl
  i9 := by kernel_rfl
  i37 := by kernel_rfl
  i127 := by kernel_rfl }
open Go.RowKit in
/-- internal/stringslite.Clone (what strings.Clone calls): "Clone returns a fresh copy of s.": THE SAME BYTES. Of what was there nothing has turned (a new row is laid, and frozen, where s is not empty). (LAID: no walk: one application.) -/
theorem Tryz.stringslite_Clone (s : ByteArray) (w : World) (hlim : s.size ≤ 281474976710656) :
    Calls Tryz.prog 68 #[.string s] w fun e w' => e = .returned (.string s) ∧ Below w.heap.size w w' := Any.stringslite_Clone Tryz.laysM316 s w hlim
def Tryz.laysM279_ren : Go.Shelf.Ren := ⟨fun | 279 => 49 | 316 => 68 | n => n, fun | 9 => 9 | 168 => 82 | 75 => 56 | 210 => 101 | 3 => 3 | 4 => 4 | 37 => 134 | 0 => 0 | 127 => 135 | 80 => 182 | 5 => 5 | n => n, fun | 15 => 1 | n => n⟩
theorem Tryz.laysM279 : Go.Proofs.LaysM.n279 Tryz.prog Tryz.laysM279_ren := {
  mixed := by kernel_rfl
  f279 := Tryz.func49.trans (congrArg some (by kernel_rfl))
  f316 := Tryz.func68.trans (congrArg some (by kernel_rfl))
  t0 := Tryz.underlying0
  a0 := Tryz.isAgg0
  z0 := Tryz.sizeOf0
  v0 := Tryz.zeroValue0
  t3 := Tryz.underlying3
  a3 := Tryz.isAgg3
  z3 := Tryz.sizeOf3
  v3 := Tryz.zeroValue3
  t4 := Tryz.underlying4
  a4 := Tryz.isAgg4
  z4 := Tryz.sizeOf4
  v4 := Tryz.zeroValue4
  t9 := Tryz.underlying9
  a9 := Tryz.isAgg9
  z9 := Tryz.sizeOf9
  v9 := Tryz.zeroValue9
  t37 := Tryz.underlying134
  a37 := Tryz.isAgg134
  z37 := Tryz.sizeOf134
  v37 := Tryz.zeroValue134
  t75 := Tryz.underlying56
  a75 := Tryz.isAgg56
  z75 := Tryz.sizeOf56
  v75 := Tryz.zeroValue56
  t127 := Tryz.underlying135
  a127 := Tryz.isAgg135
  z127 := Tryz.sizeOf135
  v127 := Tryz.zeroValue135
  t168 := Tryz.underlying82
  a168 := Tryz.isAgg82
  z168 := Tryz.sizeOf82
  v168 := Tryz.zeroValue82
  t210 := Tryz.underlying101
  a210 := Tryz.isAgg101
  z210 := Tryz.sizeOf101
  v210 := Tryz.zeroValue101
  g15 := by kernel_rfl
  t5 := Tryz.underlying5
  a5 := Tryz.isAgg5
  z5 := Tryz.sizeOf5
  v5 := Tryz.zeroValue5
  t80 := Tryz.underlying182
  a80 := Tryz.isAgg182
  z80 := Tryz.sizeOf182
  v80 := Tryz.zeroValue182
  i0 := by kernel_rfl
  i3 := by kernel_rfl
  i4 := by kernel_rfl
  i5 := by kernel_rfl
  i9 := by kernel_rfl
  i37 := by kernel_rfl
  i75 := by kernel_rfl
  i80 := by kernel_rfl
  i127 := by kernel_rfl
  i168 := by kernel_rfl
  i210 := by kernel_rfl
  m15 := by kernel_rfl }
open Go.RowKit in
/-- strconv.syntaxError: '&NumError{fn, stringslite.Clone(str), ErrSyntax}': A POINTER TO A NEW BLOCK that holds fn, str's bytes, and what the variable ErrSyntax holds. Of what was there nothing has turned. (LAID: no walk: one application.) -/
theorem Tryz.strconv_syntaxError (fn s : ByteArray) (ev : Value) (w : World) (hlim : s.size ≤ 281474976710656) (hv : w.cell? ⟨1, 0, none⟩ = some ev) (hev : ev = .nilIface ∨ ∃ te pe, ev = .iface te pe) :
    Calls Tryz.prog 49 #[.string fn, .string s] w fun e w' => ∃ N, e = .returned (.pointer (some ⟨N, 0, none⟩)) ∧ w.heap.size ≤ N ∧ w'.heap[N]? = some (.cells #[.string fn, .string s, ev] 101 (0, 0)) ∧ Below w.heap.size w w' := Any.strconv_syntaxError Tryz.laysM279 fn s ev w hlim hv hev
def Tryz.laysM280_ren : Go.Shelf.Ren := ⟨fun | 280 => 50 | 316 => 68 | n => n, fun | 9 => 9 | 168 => 82 | 75 => 56 | 210 => 101 | 3 => 3 | 4 => 4 | 37 => 134 | 0 => 0 | 127 => 135 | 80 => 182 | 5 => 5 | n => n, fun | 16 => 2 | n => n⟩
theorem Tryz.laysM280 : Go.Proofs.LaysM.n280 Tryz.prog Tryz.laysM280_ren := {
  mixed := by kernel_rfl
  f280 := Tryz.func50.trans (congrArg some (by kernel_rfl))
  f316 := Tryz.func68.trans (congrArg some (by kernel_rfl))
  t0 := Tryz.underlying0
  a0 := Tryz.isAgg0
  z0 := Tryz.sizeOf0
  v0 := Tryz.zeroValue0
  t3 := Tryz.underlying3
  a3 := Tryz.isAgg3
  z3 := Tryz.sizeOf3
  v3 := Tryz.zeroValue3
  t4 := Tryz.underlying4
  a4 := Tryz.isAgg4
  z4 := Tryz.sizeOf4
  v4 := Tryz.zeroValue4
  t9 := Tryz.underlying9
  a9 := Tryz.isAgg9
  z9 := Tryz.sizeOf9
  v9 := Tryz.zeroValue9
  t37 := Tryz.underlying134
  a37 := Tryz.isAgg134
  z37 := Tryz.sizeOf134
  v37 := Tryz.zeroValue134
  t75 := Tryz.underlying56
  a75 := Tryz.isAgg56
  z75 := Tryz.sizeOf56
  v75 := Tryz.zeroValue56
  t127 := Tryz.underlying135
  a127 := Tryz.isAgg135
  z127 := Tryz.sizeOf135
  v127 := Tryz.zeroValue135
  t168 := Tryz.underlying82
  a168 := Tryz.isAgg82
  z168 := Tryz.sizeOf82
  v168 := Tryz.zeroValue82
  t210 := Tryz.underlying101
  a210 := Tryz.isAgg101
  z210 := Tryz.sizeOf101
  v210 := Tryz.zeroValue101
  g16 := by kernel_rfl
  t5 := Tryz.underlying5
  a5 := Tryz.isAgg5
  z5 := Tryz.sizeOf5
  v5 := Tryz.zeroValue5
  t80 := Tryz.underlying182
  a80 := Tryz.isAgg182
  z80 := Tryz.sizeOf182
  v80 := Tryz.zeroValue182
  i0 := by kernel_rfl
  i3 := by kernel_rfl
  i4 := by kernel_rfl
  i5 := by kernel_rfl
  i9 := by kernel_rfl
  i37 := by kernel_rfl
  i75 := by kernel_rfl
  i80 := by kernel_rfl
  i127 := by kernel_rfl
  i168 := by kernel_rfl
  i210 := by kernel_rfl
  m16 := by kernel_rfl }
open Go.RowKit in
/-- strconv.rangeError: '&NumError{fn, stringslite.Clone(str), ErrRange}': A POINTER TO A NEW BLOCK that holds fn, str's bytes, and what the variable ErrRange holds. Of what was there nothing has turned. (LAID: no walk: one application.) -/
theorem Tryz.strconv_rangeError (fn s : ByteArray) (ev : Value) (w : World) (hlim : s.size ≤ 281474976710656) (hv : w.cell? ⟨2, 0, none⟩ = some ev) (hev : ev = .nilIface ∨ ∃ te pe, ev = .iface te pe) :
    Calls Tryz.prog 50 #[.string fn, .string s] w fun e w' => ∃ N, e = .returned (.pointer (some ⟨N, 0, none⟩)) ∧ w.heap.size ≤ N ∧ w'.heap[N]? = some (.cells #[.string fn, .string s, ev] 101 (0, 0)) ∧ Below w.heap.size w w' := Any.strconv_rangeError Tryz.laysM280 fn s ev w hlim hv hev
end Go.Proofs
