import Derived.Test.Qxb6613049aFmtW15
import Derived.Test.Qxb6613049aFmtPlain5
namespace Go.Proofs.Qxb6613049aFmt
open Go.RowKit Go.Stop

/-- A list of challenges, to be read. -/
def Lst (v : Value) (cs : List Chal) (w : World) : Prop := ∃ B xs, w.ownsRow B 39 3 v cs.length xs ∧ Row cs xs w
theorem Lst.below {v : Value} {cs : List Chal} {w w' : World} (h : Lst v cs w) (hb : Below w.heap.size w w') : Lst v cs w' := by
  obtain ⟨B, xs, ⟨hl, hown⟩, hrow⟩ := h
  refine ⟨B, xs, ⟨hl, ?_⟩, hrow.keeps (MK.below hb)⟩
  rcases hown with h1 | ⟨g, cap, cur, h3, h4, h5, h6⟩
  · exact .inl h1
  · exact .inr ⟨g, cap, cur, h3, h4, (hb.block g (Array.getElem?_eq_some_iff.1 h5).1).trans h5, h6⟩
theorem Lst.slice {v : Value} {cs : List Chal} {w : World} (h : Lst v cs w) : ∃ p c, v = .slice p cs.length c := by
  obtain ⟨B, xs, ⟨hl, hown⟩, hrow⟩ := h
  rcases hown with ⟨h1, h2⟩ | ⟨g, cap, cur, h3, _⟩
  · exact ⟨none, 0, by rw [h1, h2]⟩
  · exact ⟨_, cap, h3⟩
theorem Lst.get {p : Option Addr} {c : Nat} {cs : List Chal} {w : World} (h : Lst (.slice p cs.length c) cs w) (k : Nat) (hk : k < cs.length) :
    ∃ g mp, p = some ⟨g, 0, none⟩ ∧ w.cell? ⟨g, k * 3, none⟩ = some (.string ⟨cs[k].1.toArray⟩) ∧ w.cell? ⟨g, k * 3 + 1, none⟩ = some (.string ⟨cs[k].2.1.toArray⟩) ∧ w.cell? ⟨g, k * 3 + 2, none⟩ = some (.map mp) ∧ MP cs[k].2.2 (.map mp) w := by
  obtain ⟨B, xs, hown, hrow⟩ := h
  obtain ⟨mp, e0, e1, e2, hm⟩ := hrow.get k hk
  obtain ⟨g, c0, hv, h0⟩ := own_cell hown _ _ e0
  obtain ⟨g1, c1, hv1, h1⟩ := own_cell hown _ _ e1
  obtain ⟨g2, c2, hv2, h2⟩ := own_cell hown _ _ e2
  cases hv; cases hv1; cases hv2
  exact ⟨g, mp, rfl, h0, h1, h2, hm⟩

theorem only_of_size {rb : Nat} {s : ByteArray} {p : Int} {w w' : World} (h : Rd rb s p w) (hb : Below w.heap.size w w') : Rd rb s p w' := h.below hb (rd_lt h)

/-- What reading a whole line onto the list cs0 gives. -/
def Reads (s : ByteArray) (R : Option (List Chal)) (rb : Nat) (w : World) (e : Ending) (w' : World) : Prop :=
  (∃ cs p c, R = some cs ∧ e = .returned (.tuple #[.slice p cs.length c, .nilIface]) ∧ Lst (.slice p cs.length c) cs w' ∧ Rd rb s s.size w' ∧ Below rb w w') ∨
  (R = none ∧ ∃ x, e = .returned (.tuple #[.slice none 0 0, .iface 80 x]) ∧ Below rb w w')

theorem read_any (F : Interp) (s : ByteArray) (cs0 : List Chal) (v0 : Value) (xs0 : List Value) (rb : Nat) (w : World) (hF : F.answers w.tape) (hs : s.size ≤ 4194304) (hA : cs0.length ≤ 4194304)
    (hrd : Rd rb s 0 w) (hown : w.ownsRow rb 39 3 v0 cs0.length xs0) (hrow : Row cs0 xs0 w) :
    Calls Tryf.prog 9 #[.pointer (some ⟨rb, 0, none⟩), v0] w (Reads s (chals (s.data.toList.length + 1) s.data.toList cs0) rb w) := by
  have hl : s.data.toList.length = s.size := by simp
  rw [hl]
  refine (zzChallenges_any F rb rb s cs0 v0 xs0 w hF hrd (Nat.le_refl _) hs hA hown hrow).mono ?_
  rintro e w' (⟨cs, v, xs, h1, rfl, h2, h3, h4, h5, h6⟩ | ⟨h1, x, rfl, h2, h3⟩)
  · have hL : Lst v cs w' := ⟨rb, xs, h2, h3⟩
    obtain ⟨p, c, rfl⟩ := hL.slice
    exact .inl ⟨cs, p, c, h1, rfl, hL, h4, h5⟩
  · exact .inr ⟨h1, x, rfl, h2⟩

theorem clone_nil (w : World) : Calls Tryf.prog 16 #[.slice none 0 0] w fun e w' => e = .returned (.slice none 0 0) ∧ w = w' := by
  have hnn := fun w => Lib.run_eql_slice_nil (P := Tryf.prog) w 30 39 none 0 0 0 0 Tryf.underlying30
  go_enter Tryf.func16, Tryf.ntmps16
  go_wp2
  go_ret
  exact ⟨rfl, rfl⟩
theorem clone_lst (p : Option Addr) (c : Nat) (cs : List Chal) (w : World) (hn : cs.length ≤ 4194304) (h : Lst (.slice p cs.length c) cs w) :
    Calls Tryf.prog 16 #[.slice p cs.length c] w fun e w' => (∃ v xs, e = .returned v ∧ w'.ownsRow w.heap.size 39 3 v cs.length xs ∧ Row cs xs w') ∧ Below w.heap.size w w' := by
  obtain ⟨B, xs, hown, hrow⟩ := h
  rcases hown.2 with ⟨h1, h2⟩ | ⟨g, cap, cur, h3, _⟩
  · injection h1 with e1 e2 e3
    subst e1
    subst e3
    have hcs : cs = [] := List.eq_nil_of_length_eq_zero h2
    subst hcs
    refine (clone_nil w).mono ?_
    rintro e w' ⟨rfl, rfl⟩
    exact ⟨⟨_, [], rfl, World.ownsRow_nil _ _ _ _, rfl⟩, Below.refl _ _⟩
  · cases h3
    refine (clone_any B g c cs xs w hn hown hrow).mono ?_
    rintro e w' ⟨⟨v, rfl, ho⟩, hb⟩
    exact ⟨⟨v, xs, rfl, ho, hrow.keeps (MK.below hb)⟩, hb⟩
theorem own_mono {w : World} {B B' n : Nat} {v : Value} {xs : List Value} (h : w.ownsRow B' 39 3 v n xs) (hB : B ≤ B') : w.ownsRow B 39 3 v n xs := by
  refine ⟨h.1, ?_⟩
  rcases h.2 with h1 | ⟨g, cap, cur, h3, h4, h5⟩
  · exact .inl h1
  · exact .inr ⟨g, cap, cur, h3, Nat.le_trans hB h4, h5⟩
end Go.Proofs.Qxb6613049aFmt
