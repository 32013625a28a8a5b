import Derived.Test.Qxb6614301aFmtW3
import Derived.Test.Qxb6614301aFmtShelf
import Derived.Lib.IndexLaws
namespace Go.Proofs.Qxb6614301aFmt
open Go.RowKit

def byt (s : ByteArray) (k : Nat) : UInt8 := s.data.toList.getD k 0
theorem bcell_byt (s : ByteArray) (k : Nat) : bcell s k = .int .u8 ((byt s k).toNat : Int) := rfl
/-- No d from place a up to place b. -/
def NoD (s : ByteArray) (d : UInt8) (a b : Nat) : Prop := ∀ k, a ≤ k → k < b → byt s k ≠ d
/-- The n bytes from place q on. -/
def seg (s : ByteArray) (q n : Nat) : List UInt8 := (List.range n).map fun j => byt s (q + j)
theorem seg_len (s : ByteArray) (q n : Nat) : (seg s q n).length = n := by simp [seg]
theorem seg_get (s : ByteArray) (q n j : Nat) (h : j < n) : (seg s q n)[j]? = some (byt s (q + j)) := by simp [seg, h]
def fi (s : ByteArray) (d : UInt8) (q n : Nat) : Int := Lib.indexByte (seg s q n) d
theorem fi_cases (s : ByteArray) (d : UInt8) (q n : Nat) : (∃ i, i < n ∧ fi s d q n = (i : Nat) ∧ byt s (q + i) = d ∧ NoD s d q (q + i)) ∨ (fi s d q n = -1 ∧ NoD s d q (q + n)) := by
  have hge := Lib.indexByte_ge (seg s q n) d
  by_cases h : Lib.indexByte (seg s q n) d = -1
  · refine .inr ⟨h, fun k h1 h2 he => ?_⟩
    have := Lib.indexByte_none h (k - q)
    rw [seg_get s q n (k - q) (by omega), show q + (k - q) = k by omega, he] at this
    exact this rfl
  · obtain ⟨i, hi⟩ : ∃ i : Nat, Lib.indexByte (seg s q n) d = i := ⟨(Lib.indexByte (seg s q n) d).toNat, by omega⟩
    obtain ⟨h1, h2⟩ := Lib.indexByte_some hi
    have hlt : i < n := by
      have := (List.getElem?_eq_some_iff.1 h1).1
      rwa [seg_len] at this
    rw [seg_get s q n i hlt] at h1
    refine .inl ⟨i, hlt, hi, Option.some.inj h1, fun k h3 h4 he => ?_⟩
    have := h2 (k - q) (by omega)
    rw [seg_get s q n (k - q) (by omega), show q + (k - q) = k by omega, he] at this
    exact this rfl

theorem idx_any (bb o n c q : Nat) (s : ByteArray) (d : UInt8) (w : World) (hc : ∀ j, j < n → w.cell? ⟨bb, o + j, none⟩ = some (bcell s (q + j))) :
    Calls Tryf.prog 44 #[.slice (some ⟨bb, o, none⟩) n c, .int .u8 (d.toNat : Int)] w fun e w' => e = .returned (.int .i64 (fi s d q n)) ∧ w' = w := by
  have h := Tryf.bytes_IndexByte bb o n c ((List.range n).map fun j => ((byt s (q + j)).toNat : Int)) (d.toNat : Int) w (by simp) (by
    intro i hi
    rw [hc i hi]
    simp [List.getD, hi, bcell_byt])
  have e1 : Lib.bytesOf ((List.range n).map fun j => ((byt s (q + j)).toNat : Int)) = seg s q n := by
    simp [Lib.bytesOf, seg]
  have e2 : ((d.toNat : Int)).toNat.toUInt8 = d := by simp
  rw [e1, e2] at h
  exact h

theorem RSx.adv {rb sb bb : Nat} {s : ByteArray} {p r W L R : Nat} {e : Value} {lb : Int} {w : World} (h : RSx rb sb bb s p r W e lb w) (hR : r + L = R) (hL : R ≤ W) : RSx rb sb bb s (p + L) R W e lb (w.setCell ⟨rb, 2, none⟩ (.int .i64 R)) := by
  obtain ⟨i, lrs, pr, bs, h1, h2, h3, h4, h5, h6, h7, h8, h9⟩ := h
  have hrs : sb ≠ rb := fun e => by subst e; rw [h1] at h2; cases h2
  have hrb : bb ≠ rb := fun e => by subst e; rw [h1] at h3; cases h3
  refine ⟨i, lrs, pr, bs, set_block h1 _, (set_other hrs _).trans h2, (set_other hrb _).trans h3, h4, hL, h6, by omega, h8, ?_⟩
  intro k hk hk2
  rw [h9 k (by omega) hk2]
  congr 2
  omega
theorem RSx.set5 {rb sb bb : Nat} {s : ByteArray} {p r W : Nat} {e : Value} {lb : Int} {w : World} (h : RSx rb sb bb s p r W e lb w) (x : Int) : RSx rb sb bb s p r W e x (w.setCell ⟨rb, 5, none⟩ (.int .i64 x)) := by
  obtain ⟨i, lrs, pr, bs, h1, h2, h3, h4⟩ := h
  have hrs : sb ≠ rb := fun e => by subst e; rw [h1] at h2; cases h2
  have hrb : bb ≠ rb := fun e => by subst e; rw [h1] at h3; cases h3
  exact ⟨i, lrs, pr, bs, set_block h1 _, (set_other hrs _).trans h2, (set_other hrb _).trans h3, h4⟩
theorem RSx.bytes {rb sb bb : Nat} {s : ByteArray} {p r W : Nat} {e : Value} {lb : Int} {w : World} (h : RSx rb sb bb s p r W e lb w) : ∀ j, j < W - r → w.cell? ⟨bb, r + j, none⟩ = some (bcell s (p + j)) := by
  obtain ⟨i, lrs, pr, bs, h1, h2, h3, h4, h5, h6, h7, h8, h9⟩ := h
  intro j hj
  have := h9 (r + j) (by omega) (by omega)
  rw [show r + j - r = j by omega] at this
  simp [World.cell?, h3, this]

set_option maxRecDepth 100000 in
theorem buffered_any (rb sb bb : Nat) (s : ByteArray) (p r W : Nat) (e : Value) (lb : Int) (w : World) (h : RSx rb sb bb s p r W e lb w) :
    Calls Tryf.prog 45 #[.pointer (some ⟨rb, 0, none⟩)] w fun e w' => e = .returned (.int .i64 ((W - r : Nat) : Int)) ∧ ∃ n, w' = w.drewN n := by
  obtain ⟨c0, c1, c2, c3, c4, c5, ⟨l6, c6⟩, f2, f3, f4, f5, f6⟩ := h.cells
  obtain ⟨g1, g2, g3⟩ := h.le
  obtain ⟨D, hD⟩ : ∃ D, W - r = D := ⟨_, rfl⟩
  have hD1 : (W : Int) - (r : Int) = (D : Int) := by omega
  have hD2 : D ≤ 4096 := by omega
  rw [hD]
  clear h hD
  go_enter Tryf.func45, Tryf.ntmps45
  go_wp2_with fail
  go_quiet (fail)
  go_wp2_with fail
  go_ret
  exact ⟨rfl, _, rfl⟩
end Go.Proofs.Qxb6614301aFmt
