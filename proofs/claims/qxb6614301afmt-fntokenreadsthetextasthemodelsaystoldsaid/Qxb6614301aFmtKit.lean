import Derived.Test.Qxb6614301aFmtProg
import Derived.WalkKit
import Derived.WalkSpells
import Derived.WalkLawsBesides
import Derived.BigQuiet
import Derived.Deep.QuietTactic
import Derived.Deep.RegionWith
import Derived.Deep.RegionLaw
import Derived.Deep.RegionHeld3
import Derived.Deep.CutRange
import Derived.Deep.CutBlock
import Derived.Lib.UnsafeStr
import Derived.Laws.CopyOwn
namespace Go.Proofs.Qxb6614301aFmt
open Go.RowKit

theorem hide {p : Prop} (h : p) : Hid p := h
theorem unhide {p : Prop} (h : Hid p) : p := h

/-- No block of w but those of S turns. -/
structure Tch (S : List Nat) (w w' : World) : Prop where
  os : w'.os = w.os
  tape : w'.tape = w.tape
  output : w'.output = w.output
  size : w.heap.size ≤ w'.heap.size
  block : ∀ k, k < w.heap.size → k ∉ S → w'.heap[k]? = w.heap[k]?

theorem Tch.refl (S : List Nat) (w : World) : Tch S w w := ⟨rfl, rfl, rfl, Nat.le_refl _, fun _ _ _ => rfl⟩
theorem Tch.trans {S : List Nat} {a b c : World} (h : Tch S a b) (k : Tch S b c) : Tch S a c :=
  ⟨k.os.trans h.os, k.tape.trans h.tape, k.output.trans h.output, Nat.le_trans h.size k.size, fun i hi hn => (k.block i (Nat.lt_of_lt_of_le hi h.size) hn).trans (h.block i hi hn)⟩
theorem Tch.drew {S : List Nat} {a b : World} (h : Tch S a b) : Tch S a b.drew := ⟨h.os, h.tape, h.output, h.size, h.block⟩
theorem Tch.drewN {S : List Nat} {a b : World} (h : Tch S a b) (n : Nat) : Tch S a (b.drewN n) := ⟨h.os, h.tape, h.output, h.size, h.block⟩
theorem Tch.of_drewN {S : List Nat} {a b : World} {n : Nat} (h : Tch S (a.drewN n) b) : Tch S a b := ⟨h.os, h.tape, h.output, h.size, h.block⟩
theorem Tch.of_drew {S : List Nat} {a b : World} (h : Tch S a.drew b) : Tch S a b := ⟨h.os, h.tape, h.output, h.size, h.block⟩
theorem Tch.mono {S T : List Nat} {a b : World} (h : Tch S a b) (hs : ∀ k, k ∈ S → k ∈ T) : Tch T a b := ⟨h.os, h.tape, h.output, h.size, fun k hk hn => h.block k hk (fun hm => hn (hs k hm))⟩
theorem Tch.setCell {S : List Nat} {a b : World} (h : Tch S a b) {k o : Nat} (hk : k ∈ S) (v : Value) : Tch S a (b.setCell ⟨k, o, none⟩ v) :=
  ⟨h.os, h.tape, h.output, by simpa [World.setCell] using h.size, fun i hi hn => by
    rw [← h.block i hi hn]; exact Below.heap_setCell _ _ _ _ (fun e => hn (by rw [e]; exact hk))⟩
theorem Tch.setRow {S : List Nat} {a b : World} (h : Tch S a b) {k : Nat} (hk : k ∈ S) (cs : Array Value) : Tch S a (b.setRow k cs) :=
  ⟨h.os, h.tape, h.output, by simpa [World.setRow] using h.size, fun i hi hn => by
    rw [← h.block i hi hn]; exact setRow_other b k i cs (fun e => hn (by rw [e]; exact hk))⟩
theorem Tch.of_below {S : List Nat} {w w' : World} (h : Below w.heap.size w w') : Tch S w w' := ⟨h.os, h.tape, h.output, h.size, fun k hk _ => h.block k hk⟩
theorem Tch.below {S : List Nat} {B : Nat} {w w' : World} (h : Tch S w w') (hS : ∀ k ∈ S, B ≤ k) (hB : B ≤ w.heap.size) : Below B w w' :=
  ⟨h.os, h.tape, h.output, h.size, fun k hk => h.block k (by omega) (fun hm => by have := hS k hm; omega)⟩
theorem Tch.at {S : List Nat} {w w' : World} (h : Tch S w w') {k : Nat} {o : Obj} (hk : w.heap[k]? = some o) (hn : k ∉ S) : w'.heap[k]? = some o :=
  (h.block k (Array.getElem?_eq_some_iff.1 hk).1 hn).trans hk

theorem set_block {w : World} {k o : Nat} {c : Array Value} {t : TypeId} {fr : Nat × Nat} (h : w.heap[k]? = some (.cells c t fr)) (v : Value) : (w.setCell ⟨k, o, none⟩ v).heap[k]? = some (.cells (c.setIfInBounds o v) t fr) := by
  simp [World.setCell, Array.getElem?_modify, h]
theorem set_other {w : World} {k j o : Nat} (h : j ≠ k) (v : Value) : (w.setCell ⟨k, o, none⟩ v).heap[j]? = w.heap[j]? := Below.heap_setCell _ _ _ _ h

theorem Tch.cell0 {rb sb bb : Nat} {w w' : World} {v : Value} {g o : Nat} (h : Tch [rb, sb, bb] w w') (hv : w.cell? ⟨g, o, none⟩ = some v) (hz : rb ≠ g ∧ sb ≠ g ∧ bb ≠ g) : w'.cell? ⟨g, o, none⟩ = some v := by
  rw [← hv]
  apply World.cell?_of_block
  exact h.block g (World.block_lt_of_cell? w ⟨g, o, none⟩ hv) (by simp; exact ⟨Ne.symm hz.1, Ne.symm hz.2.1, Ne.symm hz.2.2⟩)

/-- The byte at place k of s, as a cell. -/
def bcell (s : ByteArray) (k : Nat) : Value := .int .u8 ((s.data.toList.getD k 0).toNat : Int)
theorem bcell_at (s : ByteArray) (k : Nat) (h : k < s.size) : bcell s k = .int .u8 (s[k].toNat : Int) := by
  unfold bcell
  have hl : k < s.data.toList.length := by simpa using h
  rw [List.getD, List.getElem?_eq_getElem hl]
  rfl

/-- io.EOF. -/
def eofV (ea : Addr) : Value := .iface 100 (.pointer (some ea))

/-- The blocks of a reader: rb the bufio.Reader, sb the strings.Reader, bb the buffer. It stands at place p of s. -/
def RS (ea : Addr) (rb sb bb : Nat) (s : ByteArray) (p : Nat) (u : Bool) (w : World) : Prop :=
  ∃ (r W i : Nat) (e : Value) (lb lrs pr : Int) (bs : List Value),
    w.heap[rb]? = some (.cells #[.slice (some ⟨bb, 0, none⟩) 4096 4096, .iface 40 (.pointer (some ⟨sb, 0, none⟩)), .int .i64 r, .int .i64 W, e, .int .i64 lb, .int .i64 lrs] 70 (0, 0)) ∧
    w.heap[sb]? = some (.cells #[.string s, .int .i64 i, .int .i64 pr] 52 (0, 0)) ∧
    w.heap[bb]? = some (.cells bs.toArray 5 (0, 0)) ∧ bs.length = 4096 ∧
    r ≤ W ∧ W ≤ 4096 ∧ i + r = p + W ∧ i ≤ s.size ∧ (∀ k, r ≤ k → k < W → bs[k]? = some (bcell s (p + (k - r)))) ∧
    (e = .nilIface ∨ (e = eofV ea ∧ i = s.size)) ∧ (u = true → 1 ≤ r ∧ 1 ≤ p ∧ lb = ((s.data.toList.getD (p - 1) 0).toNat : Int))
end Go.Proofs.Qxb6614301aFmt
