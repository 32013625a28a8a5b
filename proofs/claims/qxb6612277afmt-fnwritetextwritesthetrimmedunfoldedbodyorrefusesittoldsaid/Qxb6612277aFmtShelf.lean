/-
  DERIVED: THE SHELF's CONTRACTS AT THIS DUMP, IN PLAIN WORDS (tools/lay-plain.mjs out of 'Qxb6612277aFmtShelf0.lean', which tools/lay-shelf.mjs wrote): THE SAME DECLARATIONS UNDER THE SAME NAMES: 'import', 'namespace', 'open', 'def', 'theorem' AND NOTHING ELSE: no command of the shelf's: FOR A HAND-IN. Each laying: the table of numbers ('.._ren') and one theorem, a field a fact of the dump's own or the kernel's comparison; each contract: ONE APPLICATION.
-/
import Derived.Shelf.Strings.Builder1
import Derived.Shelf.Strings.Builder2
import Derived.Shelf.Strings.Trim
import Derived.Shelf.Small.Utf8
import Derived.Shelf.Small.Strs
import Derived.Shelf.Strings.BuilderF
import Derived.Shelf.Strings.BuilderK
import Derived.Shelf.Strings.Builder2Cap
import Derived.Shelf.Strings.Search1
import Derived.Shelf.Strings.Runes
import Derived.Shelf.Strings.AsciiSet
import Derived.Shelf.Unicode.DecodeSlow
import Derived.Shelf.Bytes.SlIndexSmall
import Derived.Shelf.Bytes.SlIndexAt
import Derived.Shelf.Bytes.SlSearch0
import Derived.Shelf.Bytes.SlSearch1
import Derived.Shelf.Bytes.SlSearch2
import Derived.Shelf.Bytes.SlIndexWhole
import Derived.Shelf.LaysM
import Derived.Shelf.Bytes.SlSmallAll
import Derived.Ground.SlbtProg
import Derived.Shelf.Bytes.SlCut
import Derived.Shelf.Bytes.Small
import Derived.Shelf.Bytes.IndexByte
import Derived.Shelf.Strings.SlTrimAscii
import Derived.Test.Qxb6612277aFmtProg
namespace Go.Proofs
open Go.Shelf
def Tryf.lays169_ren : Go.Shelf.Ren := ⟨fun | 169 => 48 | n => n, fun | 70 => 85 | 9 => 9 | 0 => 0 | 72 => 87 | 37 => 32 | 127 => 98 | 3 => 3 | 5 => 5 | n => n, fun | n => n⟩
theorem Tryf.lays169 : Go.Proofs.Lays.n169 Tryf.prog Tryf.lays169_ren := {
  mixed := by kernel_rfl
  f169 := Tryf.func48.trans (congrArg some (by kernel_rfl))
  t0 := Tryf.underlying0
  a0 := Tryf.isAgg0
  z0 := Tryf.sizeOf0
  v0 := Tryf.zeroValue0
  t3 := Tryf.underlying3
  a3 := Tryf.isAgg3
  z3 := Tryf.sizeOf3
  v3 := Tryf.zeroValue3
  t9 := Tryf.underlying9
  a9 := Tryf.isAgg9
  z9 := Tryf.sizeOf9
  v9 := Tryf.zeroValue9
  t37 := Tryf.underlying32
  a37 := Tryf.isAgg32
  z37 := Tryf.sizeOf32
  v37 := Tryf.zeroValue32
  t70 := Tryf.underlying85
  a70 := Tryf.isAgg85
  z70 := Tryf.sizeOf85
  v70 := Tryf.zeroValue85
  t72 := Tryf.underlying87
  a72 := Tryf.isAgg87
  z72 := Tryf.sizeOf87
  v72 := Tryf.zeroValue87
  t127 := Tryf.underlying98
  a127 := Tryf.isAgg98
  z127 := Tryf.sizeOf98
  v127 := Tryf.zeroValue98 }
theorem Tryf.Builder_Extra_169 : Builder.Extra Tryf.prog Tryf.lays169_ren := {
  sizeBuilder := by kernel_rfl
  liesBuilder := by kernel_rfl
  t5 := Tryf.underlying5
  a5 := Tryf.isAgg5
  z5 := Tryf.sizeOf5
  v5 := Tryf.zeroValue5
  infoByte := by kernel_rfl
  cellsByte := by kernel_rfl
  sizeByte := by kernel_rfl
  neB5 := by decide }
def Tryf.lays165_ren : Go.Shelf.Ren := ⟨fun | 165 => 46 | 240 => 60 | 241 => 61 | 276 => 69 | 277 => 70 | n => n, fun | 70 => 85 | 3 => 3 | 0 => 0 | 4 => 4 | 9 => 9 | 20 => 20 | 72 => 87 | 37 => 32 | 164 => 103 | 5 => 5 | n => n, fun | n => n⟩
theorem Tryf.lays165 : Go.Proofs.Lays.n165 Tryf.prog Tryf.lays165_ren := {
  mixed := by kernel_rfl
  f165 := Tryf.func46.trans (congrArg some (by kernel_rfl))
  f240 := Tryf.func60.trans (congrArg some (by kernel_rfl))
  f241 := Tryf.func61.trans (congrArg some (by kernel_rfl))
  f276 := Tryf.func69.trans (congrArg some (by kernel_rfl))
  f277 := Tryf.func70.trans (congrArg some (by kernel_rfl))
  t0 := Tryf.underlying0
  a0 := Tryf.isAgg0
  z0 := Tryf.sizeOf0
  v0 := Tryf.zeroValue0
  t3 := Tryf.underlying3
  a3 := Tryf.isAgg3
  z3 := Tryf.sizeOf3
  v3 := Tryf.zeroValue3
  t4 := Tryf.underlying4
  a4 := Tryf.isAgg4
  z4 := Tryf.sizeOf4
  v4 := Tryf.zeroValue4
  t9 := Tryf.underlying9
  a9 := Tryf.isAgg9
  z9 := Tryf.sizeOf9
  v9 := Tryf.zeroValue9
  t20 := Tryf.underlying20
  a20 := Tryf.isAgg20
  z20 := Tryf.sizeOf20
  v20 := Tryf.zeroValue20
  t37 := Tryf.underlying32
  a37 := Tryf.isAgg32
  z37 := Tryf.sizeOf32
  v37 := Tryf.zeroValue32
  t70 := Tryf.underlying85
  a70 := Tryf.isAgg85
  z70 := Tryf.sizeOf85
  v70 := Tryf.zeroValue85
  t72 := Tryf.underlying87
  a72 := Tryf.isAgg87
  z72 := Tryf.sizeOf87
  v72 := Tryf.zeroValue87
  t164 := Tryf.underlying103
  a164 := Tryf.isAgg103
  z164 := Tryf.sizeOf103
  v164 := Tryf.zeroValue103 }
theorem Tryf.Builder_Extra_165 : Builder.Extra Tryf.prog Tryf.lays165_ren := {
  sizeBuilder := by kernel_rfl
  liesBuilder := by kernel_rfl
  t5 := Tryf.underlying5
  a5 := Tryf.isAgg5
  z5 := Tryf.sizeOf5
  v5 := Tryf.zeroValue5
  infoByte := by kernel_rfl
  cellsByte := by kernel_rfl
  sizeByte := by kernel_rfl
  neB5 := by decide }
open Go.RowKit in
/-- (*strings.Builder).Grow AT A BUILDER THAT HAS NOT BEEN WRITTEN ('var b strings.Builder; b.Grow(n)'): "Grow grows b's capacity, if necessary, to guarantee space for another n bytes.": it holds no byte behind it as before it. (LAID: no walk: one application.) -/
theorem Tryf.Builder_Grow_fresh (B b n : Nat) (w : World) (hB : B ≤ b) (hbk : w.heap[b]? = some (.cells #[.pointer none, .slice none 0 0] 87 (0, 0))) (hBw : B ≤ w.heap.size) (hn : n ≤ 281474976710656) :
    Calls Tryf.prog 46 #[.pointer (some ⟨b, 0, none⟩), .int .i64 n] w fun e w' => e = .returned (.tuple #[]) ∧ (Lib.BuilderAt 87 5 B b (.pointer (some ⟨b, 0, none⟩)) [] w' ∧ Below B w w') := Any.Builder_Grow_fresh Tryf.lays165 Tryf.Builder_Extra_165 B b n w hB hbk hBw hn
def Tryf.lays160_ren : Go.Shelf.Ren := ⟨fun | 160 => 29 | 232 => 36 | 231 => 35 | 227 => 37 | 234 => 39 | 233 => 38 | 236 => 41 | 235 => 40 | 228 => 52 | 271 => 55 | 151 => 54 | 197 => 53 | 120 => 66 | 152 => 65 | 260 => 64 | 137 => 71 | 119 => 72 | 224 => 73 | 225 => 74 | 217 => 77 | 266 => 79 | n => n, fun | 9 => 9 | 4 => 4 | 3 => 3 | 5 => 5 | 117 => 74 | 116 => 73 | 0 => 0 | 124 => 77 | 21 => 21 | 105 => 92 | 46 => 107 | 119 => 106 | 139 => 110 | 138 => 109 | n => n, fun | 3 => 1 | 4 => 2 | n => n⟩
theorem Tryf.lays160 : Go.Proofs.Lays.n160 Tryf.prog Tryf.lays160_ren := {
  mixed := by kernel_rfl
  f119 := Tryf.func72.trans (congrArg some (by kernel_rfl))
  f120 := Tryf.func66.trans (congrArg some (by kernel_rfl))
  f137 := Tryf.func71.trans (congrArg some (by kernel_rfl))
  f151 := Tryf.func54.trans (congrArg some (by kernel_rfl))
  f152 := Tryf.func65.trans (congrArg some (by kernel_rfl))
  f160 := Tryf.func29.trans (congrArg some (by kernel_rfl))
  f197 := Tryf.func53.trans (congrArg some (by kernel_rfl))
  f217 := Tryf.func77.trans (congrArg some (by kernel_rfl))
  f224 := Tryf.func73.trans (congrArg some (by kernel_rfl))
  f225 := Tryf.func74.trans (congrArg some (by kernel_rfl))
  f227 := Tryf.func37.trans (congrArg some (by kernel_rfl))
  f228 := Tryf.func52.trans (congrArg some (by kernel_rfl))
  f231 := Tryf.func35.trans (congrArg some (by kernel_rfl))
  f232 := Tryf.func36.trans (congrArg some (by kernel_rfl))
  f233 := Tryf.func38.trans (congrArg some (by kernel_rfl))
  f234 := Tryf.func39.trans (congrArg some (by kernel_rfl))
  f235 := Tryf.func40.trans (congrArg some (by kernel_rfl))
  f236 := Tryf.func41.trans (congrArg some (by kernel_rfl))
  f260 := Tryf.func64.trans (congrArg some (by kernel_rfl))
  f266 := Tryf.func79.trans (congrArg some (by kernel_rfl))
  f271 := Tryf.func55.trans (congrArg some (by kernel_rfl))
  t0 := Tryf.underlying0
  a0 := Tryf.isAgg0
  z0 := Tryf.sizeOf0
  v0 := Tryf.zeroValue0
  t3 := Tryf.underlying3
  a3 := Tryf.isAgg3
  z3 := Tryf.sizeOf3
  v3 := Tryf.zeroValue3
  t4 := Tryf.underlying4
  a4 := Tryf.isAgg4
  z4 := Tryf.sizeOf4
  v4 := Tryf.zeroValue4
  t5 := Tryf.underlying5
  a5 := Tryf.isAgg5
  z5 := Tryf.sizeOf5
  v5 := Tryf.zeroValue5
  t9 := Tryf.underlying9
  a9 := Tryf.isAgg9
  z9 := Tryf.sizeOf9
  v9 := Tryf.zeroValue9
  t21 := Tryf.underlying21
  a21 := Tryf.isAgg21
  z21 := Tryf.sizeOf21
  v21 := Tryf.zeroValue21
  t46 := Tryf.underlying107
  a46 := Tryf.isAgg107
  z46 := Tryf.sizeOf107
  v46 := Tryf.zeroValue107
  t105 := Tryf.underlying92
  a105 := Tryf.isAgg92
  z105 := Tryf.sizeOf92
  v105 := Tryf.zeroValue92
  t116 := Tryf.underlying73
  a116 := Tryf.isAgg73
  z116 := Tryf.sizeOf73
  t117 := Tryf.underlying74
  a117 := Tryf.isAgg74
  z117 := Tryf.sizeOf74
  v117 := Tryf.zeroValue74
  t119 := Tryf.underlying106
  a119 := Tryf.isAgg106
  z119 := Tryf.sizeOf106
  t124 := Tryf.underlying77
  a124 := Tryf.isAgg77
  z124 := Tryf.sizeOf77
  v124 := Tryf.zeroValue77
  t138 := Tryf.underlying109
  a138 := Tryf.isAgg109
  z138 := Tryf.sizeOf109
  v138 := Tryf.zeroValue109
  t139 := Tryf.underlying110
  a139 := Tryf.isAgg110
  z139 := Tryf.sizeOf110
  v139 := Tryf.zeroValue110
  g3 := by kernel_rfl
  g4 := by kernel_rfl }
open Go.RowKit in
/-- (*strings.Builder).String: "String returns the accumulated string.": WHATEVER THE BUILDER HOLDS; THE FORM '_k': OVER 'Lib.IsBuilderF' (a builder that 'String()' may have read), AND WITH THE FRAME THAT REACHES ABOVE THE BUILDER: 'Lib.OthersKept': every block that is not b and is no row of uint8's stands as it stood: the iterator of a range among them. (LAID: no walk: one application.) -/
theorem Tryf.Builder_String_any_k (B b : Nat) (l : List UInt8) (w : World) (h : Lib.IsBuilderF 87 5 B b (Lib.byteCells l) w) (hBw : B ≤ w.heap.size) :
    Calls Tryf.prog 48 #[.pointer (some ⟨b, 0, none⟩)] w fun e w' => e = .returned (.string ⟨l.toArray⟩) ∧ (Lib.IsBuilderF 87 5 B b (Lib.byteCells l) w' ∧ Below B w w' ∧ Lib.OthersKept 5 (some b) w w') := Any.Builder_String_any_k Tryf.lays169 Tryf.Builder_Extra_169 B b l w h hBw
def Tryf.lays185_ren : Go.Shelf.Ren := ⟨fun | 185 => 68 | 187 => 43 | 115 => 67 | 253 => 75 | 224 => 73 | 254 => 76 | 255 => 56 | 291 => 78 | n => n, fun | 37 => 32 | 3 => 3 | 4 => 4 | 0 => 0 | 5 => 5 | 46 => 107 | 9 => 9 | 146 => 116 | 51 => 115 | n => n, fun | 1 => 0 | n => n⟩
theorem Tryf.lays185 : Go.Proofs.Lays.n185 Tryf.prog Tryf.lays185_ren := {
  mixed := by kernel_rfl
  f115 := Tryf.func67.trans (congrArg some (by kernel_rfl))
  f185 := Tryf.func68.trans (congrArg some (by kernel_rfl))
  f187 := Tryf.func43.trans (congrArg some (by kernel_rfl))
  f224 := Tryf.func73.trans (congrArg some (by kernel_rfl))
  f253 := Tryf.func75.trans (congrArg some (by kernel_rfl))
  f254 := Tryf.func76.trans (congrArg some (by kernel_rfl))
  f255 := Tryf.func56.trans (congrArg some (by kernel_rfl))
  f291 := Tryf.func78.trans (congrArg some (by kernel_rfl))
  t0 := Tryf.underlying0
  a0 := Tryf.isAgg0
  z0 := Tryf.sizeOf0
  v0 := Tryf.zeroValue0
  t3 := Tryf.underlying3
  a3 := Tryf.isAgg3
  z3 := Tryf.sizeOf3
  v3 := Tryf.zeroValue3
  t4 := Tryf.underlying4
  a4 := Tryf.isAgg4
  z4 := Tryf.sizeOf4
  v4 := Tryf.zeroValue4
  t5 := Tryf.underlying5
  a5 := Tryf.isAgg5
  z5 := Tryf.sizeOf5
  v5 := Tryf.zeroValue5
  t9 := Tryf.underlying9
  a9 := Tryf.isAgg9
  z9 := Tryf.sizeOf9
  v9 := Tryf.zeroValue9
  t37 := Tryf.underlying32
  a37 := Tryf.isAgg32
  z37 := Tryf.sizeOf32
  v37 := Tryf.zeroValue32
  t46 := Tryf.underlying107
  a46 := Tryf.isAgg107
  z46 := Tryf.sizeOf107
  v46 := Tryf.zeroValue107
  t51 := Tryf.underlying115
  a51 := Tryf.isAgg115
  z51 := Tryf.sizeOf115
  v51 := Tryf.zeroValue115
  t146 := Tryf.underlying116
  a146 := Tryf.isAgg116
  z146 := Tryf.sizeOf116
  v146 := Tryf.zeroValue116
  g1 := by kernel_rfl }
def Tryf.lays187_ren : Go.Shelf.Ren := ⟨fun | 187 => 43 | 255 => 56 | n => n, fun | 37 => 32 | 5 => 5 | 3 => 3 | n => n, fun | n => n⟩
theorem Tryf.lays187 : Go.Proofs.Lays.n187 Tryf.prog Tryf.lays187_ren := {
  mixed := by kernel_rfl
  f187 := Tryf.func43.trans (congrArg some (by kernel_rfl))
  f255 := Tryf.func56.trans (congrArg some (by kernel_rfl))
  t3 := Tryf.underlying3
  a3 := Tryf.isAgg3
  z3 := Tryf.sizeOf3
  v3 := Tryf.zeroValue3
  t5 := Tryf.underlying5
  a5 := Tryf.isAgg5
  z5 := Tryf.sizeOf5
  v5 := Tryf.zeroValue5
  t37 := Tryf.underlying32
  a37 := Tryf.isAgg32
  z37 := Tryf.sizeOf32
  v37 := Tryf.zeroValue32 }
open Go.RowKit Go.Lib in
/-- bytes.IndexByte, b at whatever address: "IndexByte returns the index of the first instance of c in b, or -1 if c is not present in b." (LAID: no walk: one application.) -/
theorem Tryf.bytes_IndexByte_at (a : Addr) (n c : Nat) (xs : List Int) (cv : Int) (w : World) (hx : xs.length = n) (hc : ∀ i, i < n → w.cell? (a.add i) = some (.int .u8 (xs.getD i 0))) :
    Calls Tryf.prog 43 #[.slice (some a) n c, .int .u8 cv] w fun e w' => e = .returned (.int .i64 (Lib.indexByte (Lib.bytesOf xs) cv.toNat.toUInt8)) ∧ w' = w := Any.bytes_IndexByte_at Tryf.lays187 a n c xs cv w hx hc
open Go.RowKit Go.Lib in
/-- bytes.Index at a separator of one byte, s at whatever address. (LAID: no walk: one application.) -/
theorem Tryf.bytes_Index_one_at (a : Addr) (n c b2 o2 d : Nat) (xs : List Int) (cv : Int) (w : World) (hx : xs.length = n) (hc : ∀ i, i < n → w.cell? (a.add i) = some (.int .u8 (xs.getD i 0))) (hc2 : w.cell? ⟨b2, o2, none⟩ = some (.int .u8 cv)) :
    Calls Tryf.prog 68 #[.slice (some a) n c, .slice (some ⟨b2, o2, none⟩) 1 d] w fun e w' => e = .returned (.int .i64 (Lib.indexByte (Lib.bytesOf xs) cv.toNat.toUInt8)) ∧ w' = w := Any.bytes_Index_one_at Tryf.lays185 a n c b2 o2 d xs cv w hx hc hc2
def Tryf.laysnb140_ren : Go.Shelf.Ren := ⟨fun | 140 => 44 | 117 => 57 | 115 => 67 | n => n, fun | 37 => 32 | 4 => 4 | 3 => 3 | 9 => 9 | 5 => 5 | n => n, fun | n => n⟩
theorem Tryf.laysnb140 : Go.Proofs.Lays.nb140 Tryf.prog Tryf.laysnb140_ren := {
  mixed := by kernel_rfl
  f115 := Tryf.func67.trans (congrArg some (by kernel_rfl))
  f117 := Tryf.func57.trans (congrArg some (by kernel_rfl))
  f140 := Tryf.func44.trans (congrArg some (by kernel_rfl))
  t3 := Tryf.underlying3
  a3 := Tryf.isAgg3
  z3 := Tryf.sizeOf3
  v3 := Tryf.zeroValue3
  t4 := Tryf.underlying4
  a4 := Tryf.isAgg4
  z4 := Tryf.sizeOf4
  v4 := Tryf.zeroValue4
  t9 := Tryf.underlying9
  a9 := Tryf.isAgg9
  z9 := Tryf.sizeOf9
  v9 := Tryf.zeroValue9
  t37 := Tryf.underlying32
  a37 := Tryf.isAgg32
  z37 := Tryf.sizeOf32
  v37 := Tryf.zeroValue32
  t5 := Tryf.underlying5
  a5 := Tryf.isAgg5
  z5 := Tryf.sizeOf5
  v5 := Tryf.zeroValue5 }
/-- bytes.TrimSuffix: WHOLE. (LAID: no walk: one application.) -/
theorem Tryf.bytes_TrimSuffix_all (p1 p2 : Option Addr) (n c m d : Nat) (xs ys : List Int) (w : World) (hx : xs.length = n) (hy : ys.length = m) (hnc : n ≤ c) (hbig : n ≤ 9223372036854775807) (h1 : Lib.BytesIn w p1 n xs) (h2 : Lib.BytesIn w p2 m ys) :
    Calls Tryf.prog 44 #[.slice p1 n c, .slice p2 m d] w fun e w' => e = .returned (Lib.trimSuffixV p1 n c xs ys) ∧ w' = w := Any.bytes_TrimSuffix_all Tryf.laysnb140 p1 p2 n c m d xs ys w hx hy hnc hbig h1 h2
def Tryf.laysSlT4_ren : Go.Shelf.Ren := ⟨fun | 4 => 59 | 5 => 68 | 6 => 43 | 7 => 67 | 8 => 75 | 9 => 73 | 10 => 76 | 11 => 56 | 12 => 78 | n => n, fun | 22 => 32 | 4 => 4 | 3 => 3 | 0 => 0 | 5 => 5 | 29 => 107 | 9 => 9 | 31 => 116 | 30 => 115 | n => n, fun | 0 => 0 | n => n⟩
theorem Tryf.laysSlT4 : Go.Proofs.SlLaysT.n4 Tryf.prog Tryf.laysSlT4_ren := {
  mixed := by kernel_rfl
  f4 := Tryf.func59.trans (congrArg some (by kernel_rfl))
  f5 := Tryf.func68.trans (congrArg some (by kernel_rfl))
  f6 := Tryf.func43.trans (congrArg some (by kernel_rfl))
  f7 := Tryf.func67.trans (congrArg some (by kernel_rfl))
  f8 := Tryf.func75.trans (congrArg some (by kernel_rfl))
  f9 := Tryf.func73.trans (congrArg some (by kernel_rfl))
  f10 := Tryf.func76.trans (congrArg some (by kernel_rfl))
  f11 := Tryf.func56.trans (congrArg some (by kernel_rfl))
  f12 := Tryf.func78.trans (congrArg some (by kernel_rfl))
  t0 := Tryf.underlying0
  a0 := Tryf.isAgg0
  z0 := Tryf.sizeOf0
  v0 := Tryf.zeroValue0
  t3 := Tryf.underlying3
  a3 := Tryf.isAgg3
  z3 := Tryf.sizeOf3
  v3 := Tryf.zeroValue3
  t4 := Tryf.underlying4
  a4 := Tryf.isAgg4
  z4 := Tryf.sizeOf4
  v4 := Tryf.zeroValue4
  t5 := Tryf.underlying5
  a5 := Tryf.isAgg5
  z5 := Tryf.sizeOf5
  v5 := Tryf.zeroValue5
  t9 := Tryf.underlying9
  a9 := Tryf.isAgg9
  z9 := Tryf.sizeOf9
  v9 := Tryf.zeroValue9
  t22 := Tryf.underlying32
  a22 := Tryf.isAgg32
  z22 := Tryf.sizeOf32
  v22 := Tryf.zeroValue32
  t29 := Tryf.underlying107
  a29 := Tryf.isAgg107
  z29 := Tryf.sizeOf107
  v29 := Tryf.zeroValue107
  t30 := Tryf.underlying115
  a30 := Tryf.isAgg115
  z30 := Tryf.sizeOf115
  v30 := Tryf.zeroValue115
  t31 := Tryf.underlying116
  a31 := Tryf.isAgg116
  z31 := Tryf.sizeOf116
  v31 := Tryf.zeroValue116
  g0 := by kernel_rfl }
/-- THE WALK, bytes.Index's answer a premise: whatever the two slices' addresses. (LAID: no walk: one application.) -/
theorem Tryf.bytes_Cut_of (p1 p2 : Option Addr) (n c1 k c2 : Nat) (i : Int) (w : World) (hcap : n ≤ c1) (hlo : -1 ≤ i) (hroom : 0 ≤ i → i + k ≤ n) (hn : n ≤ 4611686018427387904) (hidx : Calls Tryf.prog 68 #[.slice p1 n c1, .slice p2 k c2] w fun e w' => e = .returned (.int .i64 i) ∧ ∃ q, w' = w.drewN q) :
    Calls Tryf.prog 59 #[.slice p1 n c1, .slice p2 k c2] w fun e w' => e = .returned (Lib.cutV p1 n c1 k i) ∧ ∃ q, w' = w.drewN q := Any.bytes_Cut_of Tryf.laysSlT4 p1 p2 n c1 k c2 i w hcap hlo hroom hn hidx
/-- bytes.IndexByte AT nil: -1. (LAID: no walk: one application.) -/
theorem Tryf.bytes_IndexByte_nil (cv : Int) (w : World) :
    Calls Tryf.prog 43 #[.slice none 0 0, .int .u8 cv] w fun e w' => e = .returned (.int .i64 (-1)) ∧ w' = w := Any.bytes_IndexByte_nil Tryf.lays187 cv w
open Go.RowKit in
theorem Tryf.strings_Trim_laid (s cutset : ByteArray) (w : World) (hs : s.size ≤ 9223372036854775807) (hcs : cutset.size < 4294967281) (hascii : ∀ (j : Nat) b, cutset.data.toList[j]? = some b → b.toNat < 128) :
    Calls Tryf.prog 29 #[.string s, .string cutset] w fun e w' => e = .returned (.string ⟨(Lib.trimS s.data.toList cutset.data.toList).toArray⟩) ∧ Below w.heap.size w w' := Any.strings_Trim_laid Tryf.lays160 (by kernel_rfl) s cutset w hs hcs hascii
open Go.RowKit in
theorem Tryf.Builder_copyCheck_k2 (B b : Nat) (bs : List Value) (w : World) (h : Lib.IsBuilderF 87 5 B b bs w) :
    Calls Tryf.prog 60 #[.pointer (some ⟨b, 0, none⟩)] w fun e w' => e = .returned (.tuple #[]) ∧ (Lib.BuilderAtF 87 5 B b (.pointer (some ⟨b, 0, none⟩)) bs w' ∧ Below B w w' ∧ Lib.OthersKept 5 (some b) w w') := Any.Builder_copyCheck_k (ρ := Tryf.lays165_ren) { Tryf.lays165 with } Tryf.Builder_Extra_165.toX72 B b bs w h
end Go.Proofs
