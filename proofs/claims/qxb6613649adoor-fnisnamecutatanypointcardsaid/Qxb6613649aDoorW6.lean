import Derived.Test.Qxb6613649aDoorW5
namespace Go.Proofs.Qxb6613649aDoor
open Go.RowKit

theorem cut_any (sl b a : List UInt8) (f : Bool) (m : Int) (w : World) (hc : Lib.cut sl D = (b, a, f)) (hs : sl.length ≤ 4194304) (hm : w.cell? ⟨1, 0, none⟩ = some (.int .i64 m)) :
    Calls Tryd.prog 22 #[.string ⟨sl.toArray⟩, .string ⟨#[36, 36]⟩] w fun e w' => e = .returned (.tuple #[.string ⟨b.toArray⟩, .string ⟨a.toArray⟩, .bool f]) ∧ ∃ n, w' = w.drewN n := by
  have h := Tryd.strings_Cut ⟨sl.toArray⟩ ⟨#[36, 36]⟩ m w (by show sl.toArray.size < _; simp; omega) hm
  have e : Lib.cut (⟨sl.toArray⟩ : ByteArray).data.toList (⟨#[36, 36]⟩ : ByteArray).data.toList = (b, a, f) := hc
  rw [e] at h
  exact h

theorem TW.le {n tb p : Nat} {src : ByteArray} {ps : List Pt} {lit : List UInt8} {v : Value} {ln : Int} {W : World} (h : TW n tb p src ps lit v ln W) : n ≤ W.heap.size :=
  Nat.le_of_lt (Array.getElem?_eq_some_iff.1 h.2.1).1

theorem TW.lt {n tb p : Nat} {src : ByteArray} {ps : List Pt} {lit : List UInt8} {v : Value} {ln : Int} {W : World} (h : TW n tb p src ps lit v ln W) : tb < W.heap.size :=
  (Array.getElem?_eq_some_iff.1 h.2.2.2.1).1

theorem byteCells_len (l : List UInt8) : (Lib.byteCells l).length = l.length := by simp [Lib.byteCells]
theorem byteCells_str (l t : List UInt8) : Lib.byteCells l ++ Lib.strCells ⟨t.toArray⟩ = Lib.byteCells (l ++ t) := by
  simp [Lib.byteCells, Lib.strCells]

theorem write_any {n tb p : Nat} {src : ByteArray} {ps : List Pt} {lit : List UInt8} {v : Value} {ln : Int} {W : World} (h : TW n tb p src ps lit v ln W) (t : List UInt8) (hl : lit.length + t.length ≤ 4194304) :
    Calls Tryd.prog 18 #[.pointer (some ⟨tb + 1, 0, none⟩), .string ⟨t.toArray⟩] W fun e w' => e = .returned (.tuple #[.int .i64 t.length, .nilIface]) ∧ TW n tb p src ps (lit ++ t) v ln w' ∧ Below n W w' := by
  have hsz : (⟨t.toArray⟩ : ByteArray).size = t.length := by show t.toArray.size = _; simp
  refine (Tryd.Builder_WriteString_k2 n (tb + 1) (Lib.byteCells lit) ⟨t.toArray⟩ W h.2.2.2.2.2 (by rw [byteCells_len, hsz]; omega) h.le).mono ?_
  rintro e w' ⟨rfl, h1, h2, h3⟩
  rw [byteCells_str] at h1
  rw [hsz]
  exact ⟨rfl, h.built (.inr h1) h3, h2⟩

theorem string_any {n tb p : Nat} {src : ByteArray} {ps : List Pt} {lit : List UInt8} {v : Value} {ln : Int} {W : World} (h : TW n tb p src ps lit v ln W) :
    Calls Tryd.prog 20 #[.pointer (some ⟨tb + 1, 0, none⟩)] W fun e w' => e = .returned (.string ⟨lit.toArray⟩) ∧ TW n tb p src ps lit v ln w' ∧ Below n W w' := by
  refine (Tryd.Builder_String_any_k n (tb + 1) lit W h.2.2.2.2.2 h.le).mono ?_
  rintro e w' ⟨rfl, h1, h2, h3⟩
  exact ⟨rfl, h.built h1 h3, h2⟩

theorem len_any {n tb p : Nat} {src : ByteArray} {ps : List Pt} {lit : List UInt8} {v : Value} {ln : Int} {W : World} (h : TW n tb p src ps lit v ln W) :
    Calls Tryd.prog 25 #[.pointer (some ⟨tb + 1, 0, none⟩)] W fun e w' => e = .returned (.int .i64 lit.length) ∧ w' = W := by
  refine (Tryd.Builder_Len_f n (tb + 1) (Lib.byteCells lit) W h.2.2.2.2.2).mono ?_
  rintro e w' ⟨rfl, rfl⟩
  rw [byteCells_len]
  exact ⟨rfl, rfl⟩

theorem treset_any {n tb p : Nat} {src : ByteArray} {ps : List Pt} {lit : List UInt8} {v : Value} {ln : Int} {W : World} (h : TW n tb p src ps lit v ln W) :
    Calls Tryd.prog 26 #[.pointer (some ⟨tb + 1, 0, none⟩)] W fun e w' => e = .returned (.tuple #[]) ∧ TW n tb p src ps [] v ln w' ∧ Below n W w' := by
  refine (reset_any n (tb + 1) _ W h.2.2.2.2.2).mono ?_
  rintro e w' ⟨rfl, rfl⟩
  exact ⟨rfl, h.reset⟩

theorem cutPrefix_any (a : List UInt8) (w : World) :
    Calls Tryd.prog 23 #[.string ⟨a.toArray⟩, .string ⟨#[36, 36]⟩] w fun e w' => e = .returned (.tuple #[.string ⟨(Lib.trimPrefix a D).toArray⟩, .bool (Lib.hasPrefix a D)]) ∧ w' = w :=
  Tryd.strings_CutPrefix ⟨a.toArray⟩ ⟨#[36, 36]⟩ w
theorem hasPrefix_any (a : ByteArray) (w : World) :
    Calls Tryd.prog 24 #[.string a, .string ⟨#[36, 36]⟩] w fun e w' => e = .returned (.bool (Lib.hasPrefix a.data.toList D)) ∧ w' = w :=
  Tryd.strings_HasPrefix a ⟨#[36, 36]⟩ w
end Go.Proofs.Qxb6613649aDoor
