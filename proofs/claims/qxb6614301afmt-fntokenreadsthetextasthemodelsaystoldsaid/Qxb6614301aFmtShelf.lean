/-
  DERIVED: THE SHELF's CONTRACTS AT THIS DUMP, IN PLAIN WORDS (tools/lay-plain.mjs out of 'Qxb6614301aFmtShelf0.lean', which tools/lay-shelf.mjs wrote): THE SAME DECLARATIONS UNDER THE SAME NAMES: 'import', 'namespace', 'open', 'def', 'theorem' AND NOTHING ELSE: no command of the shelf's: FOR A HAND-IN. Each laying: the table of numbers ('.._ren') and one theorem, a field a fact of the dump's own or the kernel's comparison; each contract: ONE APPLICATION.
-/
import Derived.Shelf.Strings.Builder1
import Derived.Shelf.Small.Utf8
import Derived.Shelf.Strings.BuilderF
import Derived.Shelf.Strings.BuilderK
import Derived.Shelf.Utf8.RuneCount
import Derived.Shelf.Strings.Search1
import Derived.Shelf.Unicode.Decode
import Derived.Shelf.Strings.RuneCount
import Derived.Shelf.Unicode.DecodeSlow
import Derived.Shelf.Unicode.DecodeAny
import Derived.Shelf.Bytes.SlIndexSmall
import Derived.Ground.SlbNamesProg
import Derived.Shelf.Bytes.SlCountOne
import Derived.Shelf.Bytes.SlIndexAt
import Derived.Shelf.Bytes.SlSearch0
import Derived.Shelf.Bytes.Small
import Derived.Shelf.Bytes.IndexByte
import Derived.Test.Qxb6614301aFmtProg
namespace Go.Proofs
open Go.Shelf
def Tryf.lays170_ren : Go.Shelf.Ren := ⟨fun | 170 => 25 | n => n, fun | 70 => 59 | 3 => 3 | 0 => 0 | 72 => 62 | 37 => 60 | 5 => 5 | n => n, fun | n => n⟩
theorem Tryf.lays170 : Go.Proofs.Lays.n170 Tryf.prog Tryf.lays170_ren := {
  mixed := by kernel_rfl
  f170 := Tryf.func25.trans (congrArg some (by kernel_rfl))
  t0 := Tryf.underlying0
  a0 := Tryf.isAgg0
  z0 := Tryf.sizeOf0
  v0 := Tryf.zeroValue0
  t3 := Tryf.underlying3
  a3 := Tryf.isAgg3
  z3 := Tryf.sizeOf3
  v3 := Tryf.zeroValue3
  t37 := Tryf.underlying60
  a37 := Tryf.isAgg60
  z37 := Tryf.sizeOf60
  v37 := Tryf.zeroValue60
  t70 := Tryf.underlying59
  a70 := Tryf.isAgg59
  z70 := Tryf.sizeOf59
  v70 := Tryf.zeroValue59
  t72 := Tryf.underlying62
  a72 := Tryf.isAgg62
  z72 := Tryf.sizeOf62
  v72 := Tryf.zeroValue62 }
def Tryf.lays169_ren : Go.Shelf.Ren := ⟨fun | 169 => 28 | n => n, fun | 70 => 59 | 9 => 9 | 0 => 0 | 72 => 62 | 37 => 60 | 127 => 84 | 3 => 3 | 5 => 5 | n => n, fun | n => n⟩
theorem Tryf.lays169 : Go.Proofs.Lays.n169 Tryf.prog Tryf.lays169_ren := {
  mixed := by kernel_rfl
  f169 := Tryf.func28.trans (congrArg some (by kernel_rfl))
  t0 := Tryf.underlying0
  a0 := Tryf.isAgg0
  z0 := Tryf.sizeOf0
  v0 := Tryf.zeroValue0
  t3 := Tryf.underlying3
  a3 := Tryf.isAgg3
  z3 := Tryf.sizeOf3
  v3 := Tryf.zeroValue3
  t9 := Tryf.underlying9
  a9 := Tryf.isAgg9
  z9 := Tryf.sizeOf9
  v9 := Tryf.zeroValue9
  t37 := Tryf.underlying60
  a37 := Tryf.isAgg60
  z37 := Tryf.sizeOf60
  v37 := Tryf.zeroValue60
  t70 := Tryf.underlying59
  a70 := Tryf.isAgg59
  z70 := Tryf.sizeOf59
  v70 := Tryf.zeroValue59
  t72 := Tryf.underlying62
  a72 := Tryf.isAgg62
  z72 := Tryf.sizeOf62
  v72 := Tryf.zeroValue62
  t127 := Tryf.underlying84
  a127 := Tryf.isAgg84
  z127 := Tryf.sizeOf84
  v127 := Tryf.zeroValue84 }
theorem Tryf.Builder_Extra_169 : Builder.Extra Tryf.prog Tryf.lays169_ren := {
  sizeBuilder := by kernel_rfl
  liesBuilder := by kernel_rfl
  t5 := Tryf.underlying5
  a5 := Tryf.isAgg5
  z5 := Tryf.sizeOf5
  v5 := Tryf.zeroValue5
  infoByte := by kernel_rfl
  cellsByte := by kernel_rfl
  sizeByte := by kernel_rfl
  neB5 := by decide }
open Go.RowKit in
/-- (*strings.Builder).Len: "Len returns the number of accumulated bytes; b.Len() == len(b.String()).": the world is as it was. (THE FORM '_f': 'Lib.IsBuilderF'.) (LAID: no walk: one application.) -/
theorem Tryf.Builder_Len_f (B b : Nat) (bs : List Value) (w : World) (h : Lib.IsBuilderF 62 5 B b bs w) :
    Calls Tryf.prog 25 #[.pointer (some ⟨b, 0, none⟩)] w fun e w' => e = .returned (.int .i64 bs.length) ∧ w' = w := Any.Builder_Len_f Tryf.lays170 B b bs w h
open Go.RowKit in
/-- (*strings.Builder).String: "String returns the accumulated string.": WHATEVER THE BUILDER HOLDS; THE FORM '_k': OVER 'Lib.IsBuilderF' (a builder that 'String()' may have read), AND WITH THE FRAME THAT REACHES ABOVE THE BUILDER: 'Lib.OthersKept': every block that is not b and is no row of uint8's stands as it stood: the iterator of a range among them. (LAID: no walk: one application.) -/
theorem Tryf.Builder_String_any_k (B b : Nat) (l : List UInt8) (w : World) (h : Lib.IsBuilderF 62 5 B b (Lib.byteCells l) w) (hBw : B ≤ w.heap.size) :
    Calls Tryf.prog 28 #[.pointer (some ⟨b, 0, none⟩)] w fun e w' => e = .returned (.string ⟨l.toArray⟩) ∧ (Lib.IsBuilderF 62 5 B b (Lib.byteCells l) w' ∧ Below B w w' ∧ Lib.OthersKept 5 (some b) w w') := Any.Builder_String_any_k Tryf.lays169 Tryf.Builder_Extra_169 B b l w h hBw
def Tryf.laysSlB13_ren : Go.Shelf.Ren := ⟨fun | 13 => 38 | 24 => 46 | 25 => 47 | 12 => 48 | 31 => 56 | 19 => 44 | 20 => 57 | 21 => 58 | 22 => 59 | 23 => 60 | 29 => 55 | 30 => 63 | n => n, fun | 22 => 60 | 3 => 3 | 4 => 4 | 0 => 0 | 5 => 5 | 9 => 9 | 33 => 98 | 40 => 104 | 39 => 103 | n => n, fun | 0 => 5 | n => n⟩
theorem Tryf.laysSlB13 : Go.Proofs.SlLaysB.n13 Tryf.prog Tryf.laysSlB13_ren := {
  mixed := by kernel_rfl
  f13 := Tryf.func38.trans (congrArg some (by kernel_rfl))
  f25 := Tryf.func47.trans (congrArg some (by kernel_rfl))
  t0 := Tryf.underlying0
  a0 := Tryf.isAgg0
  z0 := Tryf.sizeOf0
  v0 := Tryf.zeroValue0
  t3 := Tryf.underlying3
  a3 := Tryf.isAgg3
  z3 := Tryf.sizeOf3
  v3 := Tryf.zeroValue3
  t4 := Tryf.underlying4
  a4 := Tryf.isAgg4
  z4 := Tryf.sizeOf4
  v4 := Tryf.zeroValue4
  t5 := Tryf.underlying5
  a5 := Tryf.isAgg5
  z5 := Tryf.sizeOf5
  v5 := Tryf.zeroValue5
  t22 := Tryf.underlying60
  a22 := Tryf.isAgg60
  z22 := Tryf.sizeOf60
  v22 := Tryf.zeroValue60 }
open Go.RowKit Go.Lib in
/-- bytes.Count at a separator of one byte: "Count counts the number of non-overlapping instances of sep in s.": how often that byte stands among s's ('Lib.countByte': 'List.count'); the world is as it was. 'xs': s's elements; 'cv': the separator's one byte. (LAID: no walk: one application.) -/
theorem Tryf.bytes_Count_one (b o n c b2 o2 d : Nat) (xs : List Int) (cv : Int) (w : World) (hx : xs.length = n) (hc : ∀ i, i < n → w.cell? ⟨b, o + i, none⟩ = some (.int .u8 (xs.getD i 0))) (hc2 : w.cell? ⟨b2, o2, none⟩ = some (.int .u8 cv)) :
    Calls Tryf.prog 38 #[.slice (some ⟨b, o, none⟩) n c, .slice (some ⟨b2, o2, none⟩) 1 d] w fun e w' => e = .returned (.int .i64 (Lib.countByte (Lib.bytesOf xs) cv.toNat.toUInt8)) ∧ w' = w := Any.bytes_Count_one Tryf.laysSlB13 b o n c b2 o2 d xs cv w hx hc hc2
open Go.RowKit Go.Lib in
/-- The same where s is nil: 0. (LAID: no walk: one application.) -/
theorem Tryf.bytes_Count_one_nil (b2 o2 d : Nat) (cv : Int) (w : World) (hc2 : w.cell? ⟨b2, o2, none⟩ = some (.int .u8 cv)) :
    Calls Tryf.prog 38 #[.slice none 0 0, .slice (some ⟨b2, o2, none⟩) 1 d] w fun e w' => e = .returned (.int .i64 0) ∧ w' = w := Any.bytes_Count_one_nil Tryf.laysSlB13 b2 o2 d cv w hc2
def Tryf.lays187_ren : Go.Shelf.Ren := ⟨fun | 187 => 44 | 255 => 55 | n => n, fun | 37 => 60 | 5 => 5 | 3 => 3 | n => n, fun | n => n⟩
theorem Tryf.lays187 : Go.Proofs.Lays.n187 Tryf.prog Tryf.lays187_ren := {
  mixed := by kernel_rfl
  f187 := Tryf.func44.trans (congrArg some (by kernel_rfl))
  f255 := Tryf.func55.trans (congrArg some (by kernel_rfl))
  t3 := Tryf.underlying3
  a3 := Tryf.isAgg3
  z3 := Tryf.sizeOf3
  v3 := Tryf.zeroValue3
  t5 := Tryf.underlying5
  a5 := Tryf.isAgg5
  z5 := Tryf.sizeOf5
  v5 := Tryf.zeroValue5
  t37 := Tryf.underlying60
  a37 := Tryf.isAgg60
  z37 := Tryf.sizeOf60
  v37 := Tryf.zeroValue60 }
/-- bytes.IndexByte: "IndexByte returns the index of the first instance of c in b, or -1 if c is not present in b.": IT RETURNS 'Lib.indexByte (the bytes of b) c'; the world is as it was. 'xs': the numbers that the slice's cells hold. (LAID: no walk: one application.) -/
theorem Tryf.bytes_IndexByte (b o n c : Nat) (xs : List Int) (cv : Int) (w : World) (hx : xs.length = n) (hc : ∀ i, i < n → w.cell? ⟨b, o + i, none⟩ = some (.int .u8 (xs.getD i 0))) :
    Calls Tryf.prog 44 #[.slice (some ⟨b, o, none⟩) n c, .int .u8 cv] w fun e w' => e = .returned (.int .i64 (Lib.indexByte (Lib.bytesOf xs) cv.toNat.toUInt8)) ∧ w' = w := Any.bytes_IndexByte Tryf.lays187 b o n c xs cv w hx hc
def Tryf.lays167_ren : Go.Shelf.Ren := ⟨fun | 167 => 30 | 240 => 42 | 276 => 52 | n => n, fun | 0 => 0 | 4 => 4 | 5 => 5 | 9 => 9 | 20 => 20 | 37 => 60 | 70 => 59 | 72 => 62 | 75 => 29 | 80 => 66 | 164 => 92 | n => n, fun | n => n⟩
theorem Tryf.lays167 : Go.Proofs.Lays.n167 Tryf.prog Tryf.lays167_ren := {
  mixed := by kernel_rfl
  f167 := Tryf.func30.trans (congrArg some (by kernel_rfl))
  f240 := Tryf.func42.trans (congrArg some (by kernel_rfl))
  f276 := Tryf.func52.trans (congrArg some (by kernel_rfl))
  t0 := Tryf.underlying0
  a0 := Tryf.isAgg0
  z0 := Tryf.sizeOf0
  v0 := Tryf.zeroValue0
  t4 := Tryf.underlying4
  a4 := Tryf.isAgg4
  z4 := Tryf.sizeOf4
  v4 := Tryf.zeroValue4
  t5 := Tryf.underlying5
  a5 := Tryf.isAgg5
  z5 := Tryf.sizeOf5
  v5 := Tryf.zeroValue5
  t9 := Tryf.underlying9
  a9 := Tryf.isAgg9
  z9 := Tryf.sizeOf9
  v9 := Tryf.zeroValue9
  t20 := Tryf.underlying20
  a20 := Tryf.isAgg20
  z20 := Tryf.sizeOf20
  v20 := Tryf.zeroValue20
  t37 := Tryf.underlying60
  a37 := Tryf.isAgg60
  z37 := Tryf.sizeOf60
  v37 := Tryf.zeroValue60
  t70 := Tryf.underlying59
  a70 := Tryf.isAgg59
  z70 := Tryf.sizeOf59
  v70 := Tryf.zeroValue59
  t72 := Tryf.underlying62
  a72 := Tryf.isAgg62
  z72 := Tryf.sizeOf62
  v72 := Tryf.zeroValue62
  t75 := Tryf.underlying29
  a75 := Tryf.isAgg29
  z75 := Tryf.sizeOf29
  v75 := Tryf.zeroValue29
  t164 := Tryf.underlying92
  a164 := Tryf.isAgg92
  z164 := Tryf.sizeOf92
  v164 := Tryf.zeroValue92 }
theorem Tryf.Builder_Extra_167 : Builder.Extra Tryf.prog Tryf.lays167_ren := {
  sizeBuilder := by kernel_rfl
  liesBuilder := by kernel_rfl
  t5 := Tryf.underlying5
  a5 := Tryf.isAgg5
  z5 := Tryf.sizeOf5
  v5 := Tryf.zeroValue5
  infoByte := by kernel_rfl
  cellsByte := by kernel_rfl
  sizeByte := by kernel_rfl
  neB5 := by decide }
theorem Tryf.Builder_X72_167 : Builder.X72 Tryf.prog Tryf.lays167_ren := { sizeBuilder := by kernel_rfl, liesBuilder := by kernel_rfl }
open Go.RowKit in
theorem Tryf.Builder_WriteByte_k (B b : Nat) (bs : List Value) (c : Int) (w : World) (h : Lib.IsBuilderF 62 5 B b bs w) (hlen : bs.length + 1 ≤ 140737488355328) (hBw : B ≤ w.heap.size) :
    Calls Tryf.prog 30 #[.pointer (some ⟨b, 0, none⟩), .int .u8 c] w fun e w' => e = .returned .nilIface ∧ (Lib.BuilderAtF 62 5 B b (.pointer (some ⟨b, 0, none⟩)) (bs ++ [.int .u8 c]) w' ∧ Below B w w' ∧ Lib.OthersKept 5 (some b) w w') := Any.Builder_WriteByte_k (ρ := Tryf.lays167_ren) Tryf.lays167 Tryf.Builder_Extra_167 B b bs c w h hlen hBw
open Go.RowKit in
theorem Tryf.Builder_copyCheck_k (B b : Nat) (bs : List Value) (w : World) (h : Lib.IsBuilderF 62 5 B b bs w) :
    Calls Tryf.prog 42 #[.pointer (some ⟨b, 0, none⟩)] w fun e w' => e = .returned (.tuple #[]) ∧ (Lib.BuilderAtF 62 5 B b (.pointer (some ⟨b, 0, none⟩)) bs w' ∧ Below B w w' ∧ Lib.OthersKept 5 (some b) w w') := Any.Builder_copyCheck_k (ρ := Tryf.lays167_ren) { Tryf.lays167 with } Tryf.Builder_X72_167 B b bs w h
end Go.Proofs
