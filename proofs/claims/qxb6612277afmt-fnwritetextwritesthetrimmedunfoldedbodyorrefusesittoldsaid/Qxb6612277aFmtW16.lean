import Derived.Test.Qxb6612277aFmtW15
namespace Go.Proofs.Qxb6612277aFmt
open Go.RowKit Go.Stop

/-- What ZZwriteText gives on the raw field l. -/
def ZWrites (l : List UInt8) (w : World) (e : Ending) (w' : World) : Prop :=
  (holdable (textOf l) = true ∧ ∃ p c1 q c2, e = .returned (.tuple #[.bool true, .slice p (textOf l).length c1, .slice q (textOf l).length c2, .bool false]) ∧ BA w' p (textOf l) ∧ RA w' q (textOf l) ∧ Below w.heap.size w w') ∨
  (holdable (textOf l) = false ∧ e = .returned (.tuple #[.bool false, .slice none 0 0, .slice none 0 0, .bool true]) ∧ Below w.heap.size w w')

theorem BA.drew {w : World} {p : Option Addr} {l : List UInt8} (h : BA w p l) : BA w.drew p l := h.below ((Below.refl _ w).drew)

theorem RA.below {w w' : World} {q : Option Addr} {t : List UInt8} (h : RA w q t) (hb : Below w.heap.size w w') : RA w' q t := by
  intro i hi
  obtain ⟨b, o, ha, hc⟩ := h i hi
  exact ⟨b, o, ha, cell_later hb hc⟩

set_option maxRecDepth 100000 in
set_option maxHeartbeats 1000000 in
theorem zzWriteText_any (F : Interp) (p : Option Addr) (n c : Nat) (l : List UInt8) (w : World) (hF : F.answers w.tape) (hl : l.length = n) (hn : n ≤ 1048576) (hcap : n ≤ c) (hc : BA w p l) (hp : p = none → c = 0) :
    Calls Tryf.prog 14 #[.slice p n c] w (ZWrites l w) := by
  generalize hWr : ZWrites l w = Wr at *
  have HW := hide (writeText_any F p n c l w hF hl hn hcap hc hp)
  clear hc
  go_enter Tryf.func14, Tryf.ntmps14
  go_wp2_with fail
  refine (unhide HW).mono ?_
  rintro e w1 (⟨hh, fb, rfl, ⟨q1, k1, q2, k2, h1, h2, h3, h4⟩, hb⟩ | ⟨hh, v, rfl, hb⟩)
  · have HH := hide hh
    clear hh
    go_wp2
    go_quiet (fail)
    go_wp2
    refine bodyPost_ret (v := .tuple #[.bool true, .slice q1 (textOf l).length k1, .slice q2 (textOf l).length k2, .bool false]) (by simp [results, Tryf.results14, go_sem]) rfl ?_
    rw [← hWr]
    have hd := below_drewN (Below.refl w1.heap.size w1) nq
    exact .inl ⟨unhide HH, q1, k1, q2, k2, rfl, h2.below hd, RA.below h4 hd, below_drewN hb nq⟩
  · have HH := hide hh
    clear hh
    go_wp2
    go_quiet (fail)
    go_wp2
    refine bodyPost_ret (v := .tuple #[.bool false, .slice none 0 0, .slice none 0 0, .bool true]) (by simp [results, Tryf.results14, go_sem]) rfl ?_
    rw [← hWr]
    exact .inr ⟨unhide HH, rfl, below_drewN hb nq⟩
end Go.Proofs.Qxb6612277aFmt
