/-
  Helpers for the walks of this seat: a fact kept from the walk, bytes that lie at an address, the plain functions.
-/
import Derived.Test.Qxb6612277aFmtProg
import Derived.WalkKit
import Derived.WalkSpells
import Derived.WalkLawsBesides
namespace Go.Proofs.Qxb6612277aFmt
open Go.RowKit

theorem hide {p : Prop} (h : p) : Hid p := h
theorem unhide {p : Prop} (h : Hid p) : p := h

/-- The slice that begins at p holds the bytes l. -/
def BA (w : World) (p : Option Addr) (l : List UInt8) : Prop :=
  ∀ i, (h : i < l.length) → ∃ b o, p = some ⟨b, o, none⟩ ∧ w.cell? ⟨b, o + i, none⟩ = some (.int .u8 (l[i].toNat : Int))

theorem BA.mono {w w' : World} {p : Option Addr} {l : List UInt8} (h : BA w p l) (hw : ∀ x, (∃ v, w.cell? x = some v) → w'.cell? x = w.cell? x) : BA w' p l := by
  intro i hi
  obtain ⟨b, o, ha, hc⟩ := h i hi
  exact ⟨b, o, ha, by rw [hw _ ⟨_, hc⟩]; exact hc⟩

theorem BA.below {w w' : World} {p : Option Addr} {l : List UInt8} (h : BA w p l) (hb : Below w.heap.size w w') : BA w' p l :=
  h.mono fun x ⟨_, hv⟩ => hb.cell (World.block_lt_of_cell? w x hv)

theorem BA.cell {w : World} {b o : Nat} {l : List UInt8} (h : BA w (some ⟨b, o, none⟩) l) (i : Nat) (hi : i < l.length) : w.cell? ⟨b, o + i, none⟩ = some (.int .u8 (l[i].toNat : Int)) := by
  obtain ⟨b', o', e, hc⟩ := h i hi
  cases e
  exact hc

theorem BA.mk {w : World} {b o : Nat} {l : List UInt8} (h : ∀ i, (hi : i < l.length) → w.cell? ⟨b, o + i, none⟩ = some (.int .u8 (l[i].toNat : Int))) : BA w (some ⟨b, o, none⟩) l :=
  fun i hi => ⟨b, o, rfl, h i hi⟩

theorem BA.nil (w : World) (p : Option Addr) : BA w p [] := fun i hi => absurd hi (Nat.not_lt_zero i)

/-- A byte is white space on a line. -/
def wsp (c : UInt8) : Bool := c == 32 || c == 9

theorem wsp_int (c : UInt8) : ((c.toNat : Int) == 32 || (c.toNat : Int) == 9) = wsp c := by
  unfold wsp
  rw [Bool.eq_iff_iff]
  simp only [Bool.or_eq_true, beq_iff_eq]
  constructor
  · rintro (h | h)
    · left; apply UInt8.toNat_inj.1; simp; omega
    · right; apply UInt8.toNat_inj.1; simp; omega
  · rintro (rfl | rfl) <;> simp

theorem byte_lt (c : UInt8) : (c.toNat : Int) < 256 := by have := c.toNat_lt; omega

/-- Behind the first colon, or 0. -/
def bodyStart : List UInt8 → Nat → Nat
  | [], _ => 0
  | c :: r, i => if c = 58 then i + 1 else bodyStart r (i + 1)

theorem bodyStart_le (l : List UInt8) (i : Nat) : bodyStart l i ≤ l.length + i := by
  induction l generalizing i with
  | nil => simp [bodyStart]
  | cons c r ih =>
    unfold bodyStart
    split
    · simp; omega
    · have := ih (i + 1); simp; omega

/-- Only tabs and 0x20 .. 0x7e. -/
def holdB (c : UInt8) : Bool := c == 9 || (32 ≤ c.toNat && c.toNat ≤ 126)
def holdable (l : List UInt8) : Bool := l.all holdB

end Go.Proofs.Qxb6612277aFmt
