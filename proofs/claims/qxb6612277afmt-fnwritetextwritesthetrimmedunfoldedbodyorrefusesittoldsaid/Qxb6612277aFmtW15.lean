import Derived.Test.Qxb6612277aFmtW6
import Derived.Test.Qxb6612277aFmtW8
import Derived.Test.Qxb6612277aFmtW14
namespace Go.Proofs.Qxb6612277aFmt
open Go.RowKit Go.Stop

/-- The block fb is a foldBuffer that holds t, ranked. -/
def FBat (fb : Nat) (t : List UInt8) (w : World) : Prop :=
  ∃ p c1 q c2, w.cell? ⟨fb, 0, none⟩ = some (.slice p t.length c1) ∧ BA w p t ∧ w.cell? ⟨fb, 1, none⟩ = some (.slice q t.length c2) ∧ RA w q t

/-- What writeText gives on the raw field l. -/
def Writes (l : List UInt8) (w : World) (e : Ending) (w' : World) : Prop :=
  (holdable (textOf l) = true ∧ ∃ fb, e = .returned (.tuple #[.pointer (some ⟨fb, 0, none⟩), .nilIface]) ∧ FBat fb (textOf l) w' ∧ Below w.heap.size w w') ∨
  (holdable (textOf l) = false ∧ ∃ v, e = .returned (.tuple #[.pointer none, .iface 91 v]) ∧ Below w.heap.size w w')

set_option maxRecDepth 100000 in
set_option maxHeartbeats 1000000 in
theorem writeText_any (F : Interp) (p : Option Addr) (n c : Nat) (l : List UInt8) (w : World) (hF : F.answers w.tape) (hl : l.length = n) (hn : n ≤ 1048576) (hcap : n ≤ c) (hc : BA w p l) (hp : p = none → c = 0) :
    Calls Tryf.prog 21 #[.agg #[.slice p n c, .int .u64 0]] w (Writes l w) := by
  have hc1 : ∀ o, BA (w.alloc o) p l := fun o => hc.below ((Below.refl _ w).alloc (Nat.le_refl _) o)
  have HT := hide fun o => text_any p n c l (w.alloc o) hl hn hcap (hc1 o) hp
  have HC := hide hc
  have htl := textOf_len l
  have HX := hide (show textOf l = textOf l from rfl)
  have hw : Writes l w = Writes l w := rfl
  generalize hWr : Writes l w = Wr at *
  clear hc hc1 hw
  go_enter Tryf.func21, Tryf.ntmps21
  go_wp2_with fail
  refine (unhide HT _).mono ?_
  rintro e w1 ⟨rfl, hb1⟩
  have hb01 : Below w.heap.size w w1 := ((Below.refl _ w).alloc (Nat.le_refl _) _).trans (hb1.mono (by simp))
  have x0 : w1.cell? ⟨w.heap.size, 0, none⟩ = some (.slice p n c) := (hb1.cell (p := ⟨w.heap.size, 0, none⟩) (by simp)).trans (by go_simp)
  have x1 : w1.cell? ⟨w.heap.size, 1, none⟩ = some (.int .u64 0) := (hb1.cell (p := ⟨w.heap.size, 1, none⟩) (by simp)).trans (by go_simp)
  go_wp2_with fail
  refine (checkText_any F ⟨(textOf l).toArray⟩ w1 (by rw [hb01.tape]; exact hF) (by simp [ByteArray.size]; omega)).mono ?_
  rintro e w2 (⟨hh, rfl, rfl⟩ | ⟨hh, N, s, rfl, hs, hb2⟩)
  · have HH := hide hh
    clear hh
    go_wp2_with fail
    refine (addText_any w1.heap.size ⟨(textOf l).toArray⟩ _ (by simp [ByteArray.size]; omega) (by exact Array.getElem?_push_size)).mono ?_
    rintro e w2 ⟨rfl, q1, k1, q2, k2, h1, h2, h3, h4, h5⟩
    go_wp2
    rw [← hWr]
    have hb02 : Below w.heap.size w w2 := (hb01.alloc hb01.size _).trans (h5.mono hb01.size)
    exact .inl ⟨unhide HH, _, rfl, ⟨q1, k1, q2, k2, h1, h2, h3, h4⟩, hb02⟩
  · have HH := hide hh
    clear hh
    have hb02 : Below w.heap.size w w2 := hb01.trans (hb2.mono hb01.size)
    have hlt : w.heap.size < w1.heap.size := Nat.lt_of_lt_of_le (by simp) hb1.size
    have y0 : w2.cell? ⟨w.heap.size, 0, none⟩ = some (.slice p n c) := (hb2.cell (p := ⟨w.heap.size, 0, none⟩) hlt).trans x0
    have y1 : w2.cell? ⟨w.heap.size, 1, none⟩ = some (.int .u64 0) := (hb2.cell (p := ⟨w.heap.size, 1, none⟩) hlt).trans x1
    go_wp2_with fail
    refine (name_any p n c l _ hl hn hcap (by exact (unhide HC).below hb02)).mono ?_
    rintro e w3 ⟨nm, rfl, hb3⟩
    have hb03 : Below w.heap.size w w3 := hb02.trans (hb3.mono hb02.size)
    go_wp2_with fail
    refine (writingError_any F nm s ⟨N, 0, none⟩ w3 (by rw [hb03.tape]; exact hF) (cell_later hb3 hs)).mono ?_
    rintro e w4 ⟨v, rfl, hb4⟩
    go_wp2
    rw [← hWr]
    exact .inr ⟨unhide HH, _, rfl, hb03.trans (hb4.mono hb03.size)⟩
end Go.Proofs.Qxb6612277aFmt
