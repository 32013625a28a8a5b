/-
  DERIVED: THE SHELF's CONTRACTS AT THIS DUMP, IN PLAIN WORDS (tools/lay-plain.mjs out of 'Qxb6613649aDoorShelf0.lean', which tools/lay-shelf.mjs wrote): THE SAME DECLARATIONS UNDER THE SAME NAMES: 'import', 'namespace', 'open', 'def', 'theorem' AND NOTHING ELSE: no command of the shelf's: FOR A HAND-IN. Each laying: the table of numbers ('.._ren') and one theorem, a field a fact of the dump's own or the kernel's comparison; each contract: ONE APPLICATION.
-/
import Derived.Shelf.Strings.Builder1
import Derived.Shelf.Strings.Builder2
import Derived.Shelf.Small.Wraps
import Derived.Shelf.Strings.BuilderF
import Derived.Shelf.Strings.BuilderK
import Derived.Shelf.Utf8.RuneCount
import Derived.Shelf.Strings.Builder2Cap
import Derived.Shelf.Strings.Search1
import Derived.Shelf.Strings.Search2
import Derived.Shelf.Strings.Search3
import Derived.Shelf.Strings.Cut
import Derived.Shelf.Strings.Count
import Derived.Shelf.LaysM
import Derived.Shelf.Strings.Shaped
import Derived.Shelf.Strings.Prefix
import Derived.Shelf.Strings.Split
import Derived.Shelf.Strings.Replace
import Derived.Shelf.Strings.SplitShaped
import Derived.Shelf.Unicode.Decode
import Derived.Shelf.Strings.RuneCount
import Derived.Shelf.Unicode.DecodeSlow
import Derived.Shelf.Unicode.DecodeAny
import Derived.Shelf.Slices.Turned
import Derived.Ground.Names2Prog
import Derived.Shelf.Slices.SearchI
import Derived.Test.Qxb6613649aDoorProg
namespace Go.Proofs
open Go.Shelf
def Tryd.lays170_ren : Go.Shelf.Ren := ⟨fun | 170 => 25 | n => n, fun | 70 => 57 | 3 => 3 | 0 => 0 | 72 => 60 | 37 => 58 | 5 => 5 | n => n, fun | n => n⟩
theorem Tryd.lays170 : Go.Proofs.Lays.n170 Tryd.prog Tryd.lays170_ren := {
  mixed := by kernel_rfl
  f170 := Tryd.func25.trans (congrArg some (by kernel_rfl))
  t0 := Tryd.underlying0
  a0 := Tryd.isAgg0
  z0 := Tryd.sizeOf0
  v0 := Tryd.zeroValue0
  t3 := Tryd.underlying3
  a3 := Tryd.isAgg3
  z3 := Tryd.sizeOf3
  v3 := Tryd.zeroValue3
  t37 := Tryd.underlying58
  a37 := Tryd.isAgg58
  z37 := Tryd.sizeOf58
  v37 := Tryd.zeroValue58
  t70 := Tryd.underlying57
  a70 := Tryd.isAgg57
  z70 := Tryd.sizeOf57
  v70 := Tryd.zeroValue57
  t72 := Tryd.underlying60
  a72 := Tryd.isAgg60
  z72 := Tryd.sizeOf60
  v72 := Tryd.zeroValue60 }
def Tryd.lays169_ren : Go.Shelf.Ren := ⟨fun | 169 => 20 | n => n, fun | 70 => 57 | 9 => 9 | 0 => 0 | 72 => 60 | 37 => 58 | 127 => 80 | 3 => 3 | 5 => 5 | n => n, fun | n => n⟩
theorem Tryd.lays169 : Go.Proofs.Lays.n169 Tryd.prog Tryd.lays169_ren := {
  mixed := by kernel_rfl
  f169 := Tryd.func20.trans (congrArg some (by kernel_rfl))
  t0 := Tryd.underlying0
  a0 := Tryd.isAgg0
  z0 := Tryd.sizeOf0
  v0 := Tryd.zeroValue0
  t3 := Tryd.underlying3
  a3 := Tryd.isAgg3
  z3 := Tryd.sizeOf3
  v3 := Tryd.zeroValue3
  t9 := Tryd.underlying9
  a9 := Tryd.isAgg9
  z9 := Tryd.sizeOf9
  v9 := Tryd.zeroValue9
  t37 := Tryd.underlying58
  a37 := Tryd.isAgg58
  z37 := Tryd.sizeOf58
  v37 := Tryd.zeroValue58
  t70 := Tryd.underlying57
  a70 := Tryd.isAgg57
  z70 := Tryd.sizeOf57
  v70 := Tryd.zeroValue57
  t72 := Tryd.underlying60
  a72 := Tryd.isAgg60
  z72 := Tryd.sizeOf60
  v72 := Tryd.zeroValue60
  t127 := Tryd.underlying80
  a127 := Tryd.isAgg80
  z127 := Tryd.sizeOf80
  v127 := Tryd.zeroValue80 }
theorem Tryd.Builder_Extra_169 : Builder.Extra Tryd.prog Tryd.lays169_ren := {
  sizeBuilder := by kernel_rfl
  liesBuilder := by kernel_rfl
  t5 := Tryd.underlying5
  a5 := Tryd.isAgg5
  z5 := Tryd.sizeOf5
  v5 := Tryd.zeroValue5
  infoByte := by kernel_rfl
  cellsByte := by kernel_rfl
  sizeByte := by kernel_rfl
  neB5 := by decide }
def Tryd.lays103_ren : Go.Shelf.Ren := ⟨fun | 103 => 23 | 210 => 37 | 206 => 38 | n => n, fun | 9 => 9 | 4 => 4 | 24 => 69 | 3 => 3 | n => n, fun | n => n⟩
theorem Tryd.lays103 : Go.Proofs.Lays.n103 Tryd.prog Tryd.lays103_ren := {
  mixed := by kernel_rfl
  f103 := Tryd.func23.trans (congrArg some (by kernel_rfl))
  f206 := Tryd.func38.trans (congrArg some (by kernel_rfl))
  f210 := Tryd.func37.trans (congrArg some (by kernel_rfl))
  t3 := Tryd.underlying3
  a3 := Tryd.isAgg3
  z3 := Tryd.sizeOf3
  v3 := Tryd.zeroValue3
  t4 := Tryd.underlying4
  a4 := Tryd.isAgg4
  z4 := Tryd.sizeOf4
  v4 := Tryd.zeroValue4
  t9 := Tryd.underlying9
  a9 := Tryd.isAgg9
  z9 := Tryd.sizeOf9
  v9 := Tryd.zeroValue9
  t24 := Tryd.underlying69
  a24 := Tryd.isAgg69
  z24 := Tryd.sizeOf69
  v24 := Tryd.zeroValue69 }
open Go.RowKit in
/-- strings.CutPrefix: "CutPrefix returns s without the provided leading prefix string and reports whether it found the prefix. If s doesn't start with prefix, CutPrefix returns s, false. If prefix is the empty string, CutPrefix returns s, true.": IT RETURNS '(Lib.trimPrefix s p, Lib.hasPrefix s p)'; the world is as it was. (LAID: no walk: one application.) -/
theorem Tryd.strings_CutPrefix (s p : ByteArray) (w : World) :
    Calls Tryd.prog 23 #[.string s, .string p] w fun e w' => e = .returned (.tuple #[.string ⟨(Lib.trimPrefix s.data.toList p.data.toList).toArray⟩, .bool (Lib.hasPrefix s.data.toList p.data.toList)]) ∧ w' = w := Any.strings_CutPrefix Tryd.lays103 s p w
def Tryd.lays122_ren : Go.Shelf.Ren := ⟨fun | 122 => 34 | 215 => 44 | n => n, fun | 3 => 3 | 4 => 4 | n => n, fun | n => n⟩
theorem Tryd.lays122 : Go.Proofs.Lays.n122 Tryd.prog Tryd.lays122_ren := {
  mixed := by kernel_rfl
  f122 := Tryd.func34.trans (congrArg some (by kernel_rfl))
  f215 := Tryd.func44.trans (congrArg some (by kernel_rfl))
  t3 := Tryd.underlying3
  a3 := Tryd.isAgg3
  z3 := Tryd.sizeOf3
  v3 := Tryd.zeroValue3
  t4 := Tryd.underlying4
  a4 := Tryd.isAgg4
  z4 := Tryd.sizeOf4
  v4 := Tryd.zeroValue4 }
open Go.RowKit in
/-- cmp.Compare at int: "Compare returns -1 if x is less than y, 0 if x equals y, +1 if x is greater than y.": IT RETURNS 'Lib.compareInt x y'; the world is as it was. (LAID: no walk: one application.) -/
theorem Tryd.cmp_Compare_int (x y : Int) (w : World) :
    Calls Tryd.prog 34 #[.int .i64 x, .int .i64 y] w fun e w' => e = .returned (.int .i64 (Lib.compareInt x y)) ∧ w' = w := Any.cmp_Compare_int Tryd.lays122 x y w
open Go.RowKit in
/-- (*strings.Builder).Len: "Len returns the number of accumulated bytes; b.Len() == len(b.String()).": the world is as it was. (THE FORM '_f': 'Lib.IsBuilderF'.) (LAID: no walk: one application.) -/
theorem Tryd.Builder_Len_f (B b : Nat) (bs : List Value) (w : World) (h : Lib.IsBuilderF 60 5 B b bs w) :
    Calls Tryd.prog 25 #[.pointer (some ⟨b, 0, none⟩)] w fun e w' => e = .returned (.int .i64 bs.length) ∧ w' = w := Any.Builder_Len_f Tryd.lays170 B b bs w h
open Go.RowKit in
/-- (*strings.Builder).String: "String returns the accumulated string.": WHATEVER THE BUILDER HOLDS; THE FORM '_k': OVER 'Lib.IsBuilderF' (a builder that 'String()' may have read), AND WITH THE FRAME THAT REACHES ABOVE THE BUILDER: 'Lib.OthersKept': every block that is not b and is no row of uint8's stands as it stood: the iterator of a range among them. (LAID: no walk: one application.) -/
theorem Tryd.Builder_String_any_k (B b : Nat) (l : List UInt8) (w : World) (h : Lib.IsBuilderF 60 5 B b (Lib.byteCells l) w) (hBw : B ≤ w.heap.size) :
    Calls Tryd.prog 20 #[.pointer (some ⟨b, 0, none⟩)] w fun e w' => e = .returned (.string ⟨l.toArray⟩) ∧ (Lib.IsBuilderF 60 5 B b (Lib.byteCells l) w' ∧ Below B w w' ∧ Lib.OthersKept 5 (some b) w w') := Any.Builder_String_any_k Tryd.lays169 Tryd.Builder_Extra_169 B b l w h hBw
def Tryd.lays145_ren : Go.Shelf.Ren := ⟨fun | 145 => 22 | 220 => 36 | 219 => 47 | 217 => 50 | 225 => 51 | 224 => 52 | 267 => 53 | 266 => 55 | 314 => 56 | n => n, fun | 9 => 9 | 4 => 4 | 59 => 67 | 3 => 3 | 5 => 5 | 46 => 94 | 146 => 103 | 51 => 102 | n => n, fun | 1 => 1 | n => n⟩
theorem Tryd.lays145 : Go.Proofs.Lays.n145 Tryd.prog Tryd.lays145_ren := {
  mixed := by kernel_rfl
  f145 := Tryd.func22.trans (congrArg some (by kernel_rfl))
  f217 := Tryd.func50.trans (congrArg some (by kernel_rfl))
  f219 := Tryd.func47.trans (congrArg some (by kernel_rfl))
  f220 := Tryd.func36.trans (congrArg some (by kernel_rfl))
  f224 := Tryd.func52.trans (congrArg some (by kernel_rfl))
  f225 := Tryd.func51.trans (congrArg some (by kernel_rfl))
  f266 := Tryd.func55.trans (congrArg some (by kernel_rfl))
  f267 := Tryd.func53.trans (congrArg some (by kernel_rfl))
  f314 := Tryd.func56.trans (congrArg some (by kernel_rfl))
  t3 := Tryd.underlying3
  a3 := Tryd.isAgg3
  z3 := Tryd.sizeOf3
  v3 := Tryd.zeroValue3
  t4 := Tryd.underlying4
  a4 := Tryd.isAgg4
  z4 := Tryd.sizeOf4
  v4 := Tryd.zeroValue4
  t5 := Tryd.underlying5
  a5 := Tryd.isAgg5
  z5 := Tryd.sizeOf5
  v5 := Tryd.zeroValue5
  t9 := Tryd.underlying9
  a9 := Tryd.isAgg9
  z9 := Tryd.sizeOf9
  v9 := Tryd.zeroValue9
  t46 := Tryd.underlying94
  a46 := Tryd.isAgg94
  z46 := Tryd.sizeOf94
  v46 := Tryd.zeroValue94
  t51 := Tryd.underlying102
  a51 := Tryd.isAgg102
  z51 := Tryd.sizeOf102
  v51 := Tryd.zeroValue102
  t59 := Tryd.underlying67
  a59 := Tryd.isAgg67
  z59 := Tryd.sizeOf67
  v59 := Tryd.zeroValue67
  t146 := Tryd.underlying103
  a146 := Tryd.isAgg103
  z146 := Tryd.sizeOf103
  v146 := Tryd.zeroValue103
  g1 := by kernel_rfl }
open Go.RowKit Go.Lib in
/-- strings.Cut: "Cut slices s around the first instance of sep, returning the text before and after sep. The found result reports whether sep appears in s. If sep does not appear in s, cut returns s, "", false.": IT RETURNS 'Lib.cut s sep'; the world is as it was but for the count of draws. (LAID: no walk: one application.) -/
theorem Tryd.strings_Cut (s sep : ByteArray) (m : Int) (w : World) (hs : s.size < 4294967281) (hm : w.cell? ⟨1, 0, none⟩ = some (.int .i64 m)) :
    Calls Tryd.prog 22 #[.string s, .string sep] w fun e w' => e = .returned (.tuple #[.string ⟨(Lib.cut s.data.toList sep.data.toList).1.toArray⟩, .string ⟨(Lib.cut s.data.toList sep.data.toList).2.1.toArray⟩, .bool (Lib.cut s.data.toList sep.data.toList).2.2]) ∧ ∃ n, w' = w.drewN n := Any.strings_Cut Tryd.lays145 s sep m w hs hm
def Tryd.lays138_ren : Go.Shelf.Ren := ⟨fun | 138 => 35 | 195 => 45 | 218 => 46 | 143 => 42 | 219 => 47 | 217 => 50 | 225 => 51 | 224 => 52 | 267 => 53 | 266 => 55 | 314 => 56 | n => n, fun | 9 => 9 | 3 => 3 | 4 => 4 | 5 => 5 | 0 => 0 | 46 => 94 | 146 => 103 | 51 => 102 | n => n, fun | 1 => 1 | n => n⟩
theorem Tryd.lays138 : Go.Proofs.Lays.n138 Tryd.prog Tryd.lays138_ren := {
  mixed := by kernel_rfl
  f138 := Tryd.func35.trans (congrArg some (by kernel_rfl))
  f143 := Tryd.func42.trans (congrArg some (by kernel_rfl))
  f195 := Tryd.func45.trans (congrArg some (by kernel_rfl))
  f217 := Tryd.func50.trans (congrArg some (by kernel_rfl))
  f218 := Tryd.func46.trans (congrArg some (by kernel_rfl))
  f219 := Tryd.func47.trans (congrArg some (by kernel_rfl))
  f224 := Tryd.func52.trans (congrArg some (by kernel_rfl))
  f225 := Tryd.func51.trans (congrArg some (by kernel_rfl))
  f266 := Tryd.func55.trans (congrArg some (by kernel_rfl))
  f267 := Tryd.func53.trans (congrArg some (by kernel_rfl))
  f314 := Tryd.func56.trans (congrArg some (by kernel_rfl))
  t0 := Tryd.underlying0
  a0 := Tryd.isAgg0
  z0 := Tryd.sizeOf0
  v0 := Tryd.zeroValue0
  t3 := Tryd.underlying3
  a3 := Tryd.isAgg3
  z3 := Tryd.sizeOf3
  v3 := Tryd.zeroValue3
  t4 := Tryd.underlying4
  a4 := Tryd.isAgg4
  z4 := Tryd.sizeOf4
  v4 := Tryd.zeroValue4
  t5 := Tryd.underlying5
  a5 := Tryd.isAgg5
  z5 := Tryd.sizeOf5
  v5 := Tryd.zeroValue5
  t9 := Tryd.underlying9
  a9 := Tryd.isAgg9
  z9 := Tryd.sizeOf9
  v9 := Tryd.zeroValue9
  t46 := Tryd.underlying94
  a46 := Tryd.isAgg94
  z46 := Tryd.sizeOf94
  v46 := Tryd.zeroValue94
  t51 := Tryd.underlying102
  a51 := Tryd.isAgg102
  z51 := Tryd.sizeOf102
  v51 := Tryd.zeroValue102
  t146 := Tryd.underlying103
  a146 := Tryd.isAgg103
  z146 := Tryd.sizeOf103
  v146 := Tryd.zeroValue103
  g1 := by kernel_rfl }
open Go.RowKit Go.Lib in
/-- strings.Count AT A substr OF ONE BYTE ('hp'): "Count counts the number of non-overlapping instances of substr in s.": IT RETURNS 'Lib.countByte s (that byte)'; the world is as it was. ✋ NO CONTRACT HERE YET at an empty substr (utf8.RuneCountInString) or at a longer one (a loop over strings.Index). (LAID: no walk: one application.) -/
theorem Tryd.strings_Count_one (s : ByteArray) (c : UInt8) (w : World) :
    Calls Tryd.prog 35 #[.string s, .string ⟨#[c]⟩] w fun e w' => e = .returned (.int .i64 (Lib.countByte s.data.toList c)) ∧ w' = w := Any.strings_Count_one Tryd.lays138 s c w
def Tryd.laysM145_ren : Go.Shelf.Ren := ⟨fun | 145 => 22 | 220 => 36 | 219 => 47 | 217 => 50 | 225 => 51 | 224 => 52 | 267 => 53 | 266 => 55 | 314 => 56 | n => n, fun | 9 => 9 | 4 => 4 | 59 => 67 | 3 => 3 | 5 => 5 | 46 => 94 | 146 => 103 | 51 => 102 | n => n, fun | 1 => 1 | n => n⟩
theorem Tryd.laysM145 : Go.Proofs.LaysM.n145 Tryd.prog Tryd.laysM145_ren := {
  mixed := by kernel_rfl
  f145 := Tryd.func22.trans (congrArg some (by kernel_rfl))
  f217 := Tryd.func50.trans (congrArg some (by kernel_rfl))
  f219 := Tryd.func47.trans (congrArg some (by kernel_rfl))
  f220 := Tryd.func36.trans (congrArg some (by kernel_rfl))
  f224 := Tryd.func52.trans (congrArg some (by kernel_rfl))
  f225 := Tryd.func51.trans (congrArg some (by kernel_rfl))
  f266 := Tryd.func55.trans (congrArg some (by kernel_rfl))
  f267 := Tryd.func53.trans (congrArg some (by kernel_rfl))
  f314 := Tryd.func56.trans (congrArg some (by kernel_rfl))
  t3 := Tryd.underlying3
  a3 := Tryd.isAgg3
  z3 := Tryd.sizeOf3
  v3 := Tryd.zeroValue3
  t4 := Tryd.underlying4
  a4 := Tryd.isAgg4
  z4 := Tryd.sizeOf4
  v4 := Tryd.zeroValue4
  t5 := Tryd.underlying5
  a5 := Tryd.isAgg5
  z5 := Tryd.sizeOf5
  v5 := Tryd.zeroValue5
  t9 := Tryd.underlying9
  a9 := Tryd.isAgg9
  z9 := Tryd.sizeOf9
  v9 := Tryd.zeroValue9
  t46 := Tryd.underlying94
  a46 := Tryd.isAgg94
  z46 := Tryd.sizeOf94
  v46 := Tryd.zeroValue94
  t51 := Tryd.underlying102
  a51 := Tryd.isAgg102
  z51 := Tryd.sizeOf102
  v51 := Tryd.zeroValue102
  t59 := Tryd.underlying67
  a59 := Tryd.isAgg67
  z59 := Tryd.sizeOf67
  v59 := Tryd.zeroValue67
  t146 := Tryd.underlying103
  a146 := Tryd.isAgg103
  z146 := Tryd.sizeOf103
  v146 := Tryd.zeroValue103
  g1 := by kernel_rfl
  i3 := by kernel_rfl
  i4 := by kernel_rfl
  i5 := by kernel_rfl
  i9 := by kernel_rfl
  i46 := by kernel_rfl
  i51 := by kernel_rfl
  i59 := by kernel_rfl
  i146 := by kernel_rfl
  m1 := by kernel_rfl
  s1_3 := fun w h => Go.Proofs.cell_of_shapedOpen_int (zero := #[.int .i64 0]) (t := 3) h (of_decide_eq_true (by kernel_rfl)) (by kernel_rfl) rfl (by kernel_rfl) (by kernel_rfl) Tryd.underlying3 }
open Go.RowKit Go.Lib in
theorem Tryd.strings_Cut_shaped (s sep : ByteArray) (w : World) (h : w.ShapedOpen Tryd.prog) (hs : s.size < 4294967281) :
    Calls Tryd.prog 22 #[.string s, .string sep] w fun e w' => e = .returned (.tuple #[.string ⟨(Lib.cut s.data.toList sep.data.toList).1.toArray⟩, .string ⟨(Lib.cut s.data.toList sep.data.toList).2.1.toArray⟩, .bool (Lib.cut s.data.toList sep.data.toList).2.2]) ∧ ∃ n, w' = w.drewN n := Any.strings_Cut_shaped Tryd.laysM145 s sep w h hs
def Tryd.lays99_ren : Go.Shelf.Ren := ⟨fun | 99 => 24 | 206 => 38 | n => n, fun | 9 => 9 | 4 => 4 | 3 => 3 | n => n, fun | n => n⟩
theorem Tryd.lays99 : Go.Proofs.Lays.n99 Tryd.prog Tryd.lays99_ren := {
  mixed := by kernel_rfl
  f99 := Tryd.func24.trans (congrArg some (by kernel_rfl))
  f206 := Tryd.func38.trans (congrArg some (by kernel_rfl))
  t3 := Tryd.underlying3
  a3 := Tryd.isAgg3
  z3 := Tryd.sizeOf3
  v3 := Tryd.zeroValue3
  t4 := Tryd.underlying4
  a4 := Tryd.isAgg4
  z4 := Tryd.sizeOf4
  v4 := Tryd.zeroValue4
  t9 := Tryd.underlying9
  a9 := Tryd.isAgg9
  z9 := Tryd.sizeOf9
  v9 := Tryd.zeroValue9 }
open Go.RowKit Go.Lib in
/-- strings.HasPrefix: "HasPrefix reports whether the string s begins with prefix.": IT RETURNS 'Lib.hasPrefix s prefix'; the world is as it was. (LAID: no walk: one application.) -/
theorem Tryd.strings_HasPrefix (s p : ByteArray) (w : World) :
    Calls Tryd.prog 24 #[.string s, .string p] w fun e w' => e = .returned (.bool (Lib.hasPrefix s.data.toList p.data.toList)) ∧ w' = w := Any.strings_HasPrefix Tryd.lays99 s p w
def Tryd.lays155_ren : Go.Shelf.Ren := ⟨fun | 155 => 19 | 154 => 31 | 138 => 35 | 165 => 41 | 143 => 42 | 166 => 18 | 197 => 43 | 169 => 20 | 195 => 45 | 218 => 46 | 240 => 30 | 241 => 48 | 219 => 47 | 260 => 49 | 276 => 40 | 277 => 54 | 217 => 50 | 225 => 51 | 224 => 52 | 267 => 53 | 266 => 55 | 314 => 56 | n => n, fun | 9 => 9 | 3 => 3 | 4 => 4 | 72 => 60 | 0 => 0 | 76 => 63 | 105 => 92 | 21 => 21 | 5 => 5 | 70 => 57 | 20 => 20 | 37 => 58 | 75 => 33 | 127 => 80 | 164 => 89 | 46 => 94 | 119 => 98 | 139 => 101 | 138 => 100 | 146 => 103 | 51 => 102 | 80 => 38 | n => n, fun | 1 => 1 | 3 => 2 | 4 => 3 | n => n⟩
theorem Tryd.lays155 : Go.Proofs.Lays.n155 Tryd.prog Tryd.lays155_ren := {
  mixed := by kernel_rfl
  f138 := Tryd.func35.trans (congrArg some (by kernel_rfl))
  f143 := Tryd.func42.trans (congrArg some (by kernel_rfl))
  f154 := Tryd.func31.trans (congrArg some (by kernel_rfl))
  f155 := Tryd.func19.trans (congrArg some (by kernel_rfl))
  f165 := Tryd.func41.trans (congrArg some (by kernel_rfl))
  f166 := Tryd.func18.trans (congrArg some (by kernel_rfl))
  f169 := Tryd.func20.trans (congrArg some (by kernel_rfl))
  f195 := Tryd.func45.trans (congrArg some (by kernel_rfl))
  f197 := Tryd.func43.trans (congrArg some (by kernel_rfl))
  f217 := Tryd.func50.trans (congrArg some (by kernel_rfl))
  f218 := Tryd.func46.trans (congrArg some (by kernel_rfl))
  f219 := Tryd.func47.trans (congrArg some (by kernel_rfl))
  f224 := Tryd.func52.trans (congrArg some (by kernel_rfl))
  f225 := Tryd.func51.trans (congrArg some (by kernel_rfl))
  f240 := Tryd.func30.trans (congrArg some (by kernel_rfl))
  f241 := Tryd.func48.trans (congrArg some (by kernel_rfl))
  f260 := Tryd.func49.trans (congrArg some (by kernel_rfl))
  f266 := Tryd.func55.trans (congrArg some (by kernel_rfl))
  f267 := Tryd.func53.trans (congrArg some (by kernel_rfl))
  f276 := Tryd.func40.trans (congrArg some (by kernel_rfl))
  f277 := Tryd.func54.trans (congrArg some (by kernel_rfl))
  f314 := Tryd.func56.trans (congrArg some (by kernel_rfl))
  t0 := Tryd.underlying0
  a0 := Tryd.isAgg0
  z0 := Tryd.sizeOf0
  v0 := Tryd.zeroValue0
  t3 := Tryd.underlying3
  a3 := Tryd.isAgg3
  z3 := Tryd.sizeOf3
  v3 := Tryd.zeroValue3
  t4 := Tryd.underlying4
  a4 := Tryd.isAgg4
  z4 := Tryd.sizeOf4
  v4 := Tryd.zeroValue4
  t5 := Tryd.underlying5
  a5 := Tryd.isAgg5
  z5 := Tryd.sizeOf5
  v5 := Tryd.zeroValue5
  t9 := Tryd.underlying9
  a9 := Tryd.isAgg9
  z9 := Tryd.sizeOf9
  v9 := Tryd.zeroValue9
  t20 := Tryd.underlying20
  a20 := Tryd.isAgg20
  z20 := Tryd.sizeOf20
  v20 := Tryd.zeroValue20
  t21 := Tryd.underlying21
  a21 := Tryd.isAgg21
  z21 := Tryd.sizeOf21
  v21 := Tryd.zeroValue21
  t37 := Tryd.underlying58
  a37 := Tryd.isAgg58
  z37 := Tryd.sizeOf58
  v37 := Tryd.zeroValue58
  t46 := Tryd.underlying94
  a46 := Tryd.isAgg94
  z46 := Tryd.sizeOf94
  v46 := Tryd.zeroValue94
  t51 := Tryd.underlying102
  a51 := Tryd.isAgg102
  z51 := Tryd.sizeOf102
  v51 := Tryd.zeroValue102
  t70 := Tryd.underlying57
  a70 := Tryd.isAgg57
  z70 := Tryd.sizeOf57
  v70 := Tryd.zeroValue57
  t72 := Tryd.underlying60
  a72 := Tryd.isAgg60
  z72 := Tryd.sizeOf60
  v72 := Tryd.zeroValue60
  t75 := Tryd.underlying33
  a75 := Tryd.isAgg33
  z75 := Tryd.sizeOf33
  v75 := Tryd.zeroValue33
  t76 := Tryd.underlying63
  a76 := Tryd.isAgg63
  z76 := Tryd.sizeOf63
  v76 := Tryd.zeroValue63
  t105 := Tryd.underlying92
  a105 := Tryd.isAgg92
  z105 := Tryd.sizeOf92
  v105 := Tryd.zeroValue92
  t119 := Tryd.underlying98
  a119 := Tryd.isAgg98
  z119 := Tryd.sizeOf98
  t127 := Tryd.underlying80
  a127 := Tryd.isAgg80
  z127 := Tryd.sizeOf80
  v127 := Tryd.zeroValue80
  t138 := Tryd.underlying100
  a138 := Tryd.isAgg100
  z138 := Tryd.sizeOf100
  v138 := Tryd.zeroValue100
  t139 := Tryd.underlying101
  a139 := Tryd.isAgg101
  z139 := Tryd.sizeOf101
  v139 := Tryd.zeroValue101
  t146 := Tryd.underlying103
  a146 := Tryd.isAgg103
  z146 := Tryd.sizeOf103
  v146 := Tryd.zeroValue103
  t164 := Tryd.underlying89
  a164 := Tryd.isAgg89
  z164 := Tryd.sizeOf89
  v164 := Tryd.zeroValue89
  g1 := by kernel_rfl
  g3 := by kernel_rfl
  g4 := by kernel_rfl }
theorem Tryd.Builder_Extra_155 : Builder.Extra Tryd.prog Tryd.lays155_ren := {
  sizeBuilder := by kernel_rfl
  liesBuilder := by kernel_rfl
  t5 := Tryd.underlying5
  a5 := Tryd.isAgg5
  z5 := Tryd.sizeOf5
  v5 := Tryd.zeroValue5
  infoByte := by kernel_rfl
  cellsByte := by kernel_rfl
  sizeByte := by kernel_rfl
  neB5 := by decide }
open Go.RowKit Go.Lib in
/-- strings.ReplaceAll: "ReplaceAll returns a copy of the string s with all non-overlapping instances of old replaced by new.": AT AN old THAT IS NOT EMPTY: 'Lib.replaceAll s old new'. (LAID: no walk: one application.) -/
theorem Tryd.strings_ReplaceAll (s old new : ByteArray) (m : Int) (w : World) (hs : s.size < 4294967281) (hm : w.cell? ⟨1, 0, none⟩ = some (.int .i64 m)) (h1 : 1 ≤ old.size) (hlen : s.size + Lib.countB s old * new.size ≤ 140737488355328) :
    Calls Tryd.prog 19 #[.string s, .string old, .string new] w fun e w' =>
      e = .returned (.string ⟨(Lib.replaceAll s.data.toList old.data.toList new.data.toList).toArray⟩) ∧ Below w.heap.size w w' := Any.strings_ReplaceAll Tryd.lays155 Tryd.Builder_Extra_155 s old new m w hs hm h1 hlen
def Tryd.lays110_ren : Go.Shelf.Ren := ⟨fun | 110 => 29 | 109 => 39 | n => n, fun | 31 => 36 | 9 => 9 | 4 => 4 | 3 => 3 | 0 => 0 | n => n, fun | n => n⟩
theorem Tryd.lays110 : Go.Proofs.Lays.n110 Tryd.prog Tryd.lays110_ren := {
  mixed := by kernel_rfl
  f109 := Tryd.func39.trans (congrArg some (by kernel_rfl))
  f110 := Tryd.func29.trans (congrArg some (by kernel_rfl))
  t0 := Tryd.underlying0
  a0 := Tryd.isAgg0
  z0 := Tryd.sizeOf0
  v0 := Tryd.zeroValue0
  t3 := Tryd.underlying3
  a3 := Tryd.isAgg3
  z3 := Tryd.sizeOf3
  v3 := Tryd.zeroValue3
  t4 := Tryd.underlying4
  a4 := Tryd.isAgg4
  z4 := Tryd.sizeOf4
  v4 := Tryd.zeroValue4
  t9 := Tryd.underlying9
  a9 := Tryd.isAgg9
  z9 := Tryd.sizeOf9
  v9 := Tryd.zeroValue9
  t31 := Tryd.underlying36
  a31 := Tryd.isAgg36
  z31 := Tryd.sizeOf36
  v31 := Tryd.zeroValue36 }
open Go.Lib in
/-- slices.Contains at []string: "Contains reports whether v is present in s.": IT RETURNS 'Lib.containsS (the elements) v', which is true just where v is among them ('Lib.containsS_iff'); the world is as it was. ITS CALLEE slices.Index IS MET BY ITS OWN CONTRACT OFF THE SHELF (lay that first): no loop is walked here. (LAID: no walk: one application.) -/
theorem Tryd.slices_Contains_string (b off n c : Nat) (zs : List ByteArray) (x : ByteArray) (w : World) (hz : n ≤ zs.length) (hbig : n ≤ 9223372036854775807) (hc : ∀ j, j < zs.length → w.cell? ⟨b, off + j, none⟩ = some (.string (zs.getD j ByteArray.empty))) :
    Calls Tryd.prog 29 #[.slice (some ⟨b, off, none⟩) n c, .string x] w fun e w' => e = .returned (.bool (Lib.containsS (zs.take n) x)) ∧ w' = w := Any.slices_Contains_string Tryd.lays110 b off n c zs x w hz hbig hc
open Go.Lib in
/-- The same at a slice of length 0, a nil one too. (LAID: no walk: one application.) -/
theorem Tryd.slices_Contains_string_empty (a : Option Addr) (c : Nat) (x : ByteArray) (w : World) :
    Calls Tryd.prog 29 #[.slice a 0 c, .string x] w fun e w' => e = .returned (.bool false) ∧ w' = w := Any.slices_Contains_string_empty Tryd.lays110 a c x w
open Go.RowKit in
theorem Tryd.Builder_WriteString_k2 (B b : Nat) (bs : List Value) (s : ByteArray) (w : World) (h : Lib.IsBuilderF 60 5 B b bs w) (hlen : bs.length + s.size ≤ 140737488355328) (hBw : B ≤ w.heap.size) :
    Calls Tryd.prog 18 #[.pointer (some ⟨b, 0, none⟩), .string s] w fun e w' => e = .returned (.tuple #[.int .i64 s.size, .nilIface]) ∧ (Lib.BuilderAtF 60 5 B b (.pointer (some ⟨b, 0, none⟩)) (bs ++ Lib.strCells s) w' ∧ Below B w w' ∧ Lib.OthersKept 5 (some b) w w') := Any.Builder_WriteString_k (ρ := Tryd.lays155_ren) { Tryd.lays155 with } Tryd.Builder_Extra_155 B b bs s w h hlen hBw
end Go.Proofs
