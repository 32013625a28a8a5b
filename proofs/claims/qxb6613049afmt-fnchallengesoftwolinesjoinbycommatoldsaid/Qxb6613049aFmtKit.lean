import Derived.Test.Qxb6613049aFmtProg
import Derived.WalkKit
import Derived.WalkSpells
import Derived.WalkLawsBesides
import Derived.BigQuiet
import Derived.Deep.QuietTactic
import Derived.Deep.RegionWith
import Derived.Deep.RegionHeld3
import Derived.Deep.CutRange
import Derived.Lib.UnsafeStr
namespace Go.Proofs.Qxb6613049aFmt
open Go.RowKit

theorem hide {p : Prop} (h : p) : Hid p := h
theorem unhide {p : Prop} (h : Hid p) : p := h

/-- The block rb is a reader of s that stands at pos. -/
def Rd (rb : Nat) (s : ByteArray) (pos : Int) (w : World) : Prop :=
  ∃ r : Int, w.heap[rb]? = some (.cells #[.string s, .int .i64 pos, .int .i64 r] 53 (0, 0))

/-- No block of w but rb turns. -/
structure Only (rb : Nat) (w w' : World) : Prop where
  os : w'.os = w.os
  tape : w'.tape = w.tape
  output : w'.output = w.output
  size : w.heap.size ≤ w'.heap.size
  block : ∀ k, k < w.heap.size → k ≠ rb → w'.heap[k]? = w.heap[k]?

theorem Only.refl (rb : Nat) (w : World) : Only rb w w := ⟨rfl, rfl, rfl, Nat.le_refl _, fun _ _ _ => rfl⟩
theorem Only.trans {rb : Nat} {a b c : World} (h : Only rb a b) (k : Only rb b c) : Only rb a c :=
  ⟨k.os.trans h.os, k.tape.trans h.tape, k.output.trans h.output, Nat.le_trans h.size k.size, fun i hi hn => (k.block i (Nat.lt_of_lt_of_le hi h.size) hn).trans (h.block i hi hn)⟩
theorem Only.drew {rb : Nat} {a b : World} (h : Only rb a b) : Only rb a b.drew := ⟨h.os, h.tape, h.output, h.size, h.block⟩
theorem Only.setCell {rb : Nat} {a b : World} (h : Only rb a b) (o : Nat) (v : Value) : Only rb a (b.setCell ⟨rb, o, none⟩ v) :=
  ⟨h.os, h.tape, h.output, by simpa [World.setCell] using h.size, fun k hk hn => by
    rw [← h.block k hk hn]; simp [World.setCell, Array.getElem?_modify, Ne.symm hn]⟩
theorem Only.below {rb B : Nat} {w w' : World} (h : Only rb w w') (hB : B ≤ rb) (hs : B ≤ w.heap.size) : Below B w w' :=
  ⟨h.os, h.tape, h.output, h.size, fun k hk => h.block k (by omega) (by omega)⟩

theorem Rd.cells {rb : Nat} {s : ByteArray} {pos : Int} {w : World} (h : Rd rb s pos w) :
    ∃ r : Int, w.cell? ⟨rb, 0, none⟩ = some (.string s) ∧ w.cell? ⟨rb, 1, none⟩ = some (.int .i64 pos) ∧ w.cell? ⟨rb, 2, none⟩ = some (.int .i64 r) ∧
      w.frozen? ⟨rb, 1, none⟩ = false ∧ w.frozen? ⟨rb, 2, none⟩ = false := by
  obtain ⟨r, h⟩ := h
  exact ⟨r, by simp [World.cell?, h], by simp [World.cell?, h], by simp [World.cell?, h], by simp [World.frozen?, h], by simp [World.frozen?, h]⟩
theorem Rd.set1 {rb : Nat} {s : ByteArray} {pos : Int} {w : World} (h : Rd rb s pos w) (p : Int) : Rd rb s p (w.setCell ⟨rb, 1, none⟩ (.int .i64 p)) := by
  obtain ⟨r, h⟩ := h
  exact ⟨r, by simp [World.setCell, Array.getElem?_modify, h]⟩
theorem Rd.set2 {rb : Nat} {s : ByteArray} {pos : Int} {w : World} (h : Rd rb s pos w) (p : Int) : Rd rb s pos (w.setCell ⟨rb, 2, none⟩ (.int .i64 p)) := by
  obtain ⟨r, h⟩ := h
  exact ⟨p, by simp [World.setCell, Array.getElem?_modify, h]⟩
theorem Rd.drew {rb : Nat} {s : ByteArray} {pos : Int} {w : World} (h : Rd rb s pos w) : Rd rb s pos w.drew := h

/-- What a step of the reader leaves. -/
def Steps (rb : Nat) (s : ByteArray) (pos : Int) (w w' : World) : Prop := Rd rb s pos w' ∧ Only rb w w'

set_option maxHeartbeats 400000 in
theorem byteAt_any (rb : Nat) (s : ByteArray) (pos : Int) (i : Nat) (w : World) (h : Rd rb s pos w) (hi : i < s.size) :
    Calls Tryf.prog 36 #[.pointer (some ⟨rb, 0, none⟩), .int .i64 (i : Int)] w fun e w' => e = .returned (.int .u8 (s[i].toNat : Int)) ∧ Steps rb s pos w w' := by
  obtain ⟨r, c0, c1, c2, f1, f2⟩ := h.cells
  have HR := hide h
  clear h
  go_enter Tryf.func36, Tryf.ntmps36
  go_wp2
  go_ret
  exact ⟨rfl, (unhide HR).set2 _, (Only.refl rb w).setCell 2 _⟩
end Go.Proofs.Qxb6613049aFmt
