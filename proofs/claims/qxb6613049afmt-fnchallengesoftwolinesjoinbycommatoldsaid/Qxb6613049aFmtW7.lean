import Derived.Test.Qxb6613049aFmtW6
import Derived.Test.Qxb6613049aFmtPlain3
namespace Go.Proofs.Qxb6613049aFmt
open Go.RowKit Go.Stop

/-- The map field of a challenge holds ps; its block, if there is one, is new since N. -/
def PM (N rb cb : Nat) (ps : Ps) (pm : Value) (w : World) : Prop :=
  (ps = [] ∧ pm = .map none) ∨ (ps ≠ [] ∧ ∃ r, pm = .map (some r) ∧ N ≤ r ∧ r ≠ rb ∧ r ≠ cb ∧ MapAt r ps w)
theorem PM.only {N rb cb : Nat} {ps : Ps} {pm : Value} {w w' : World} (h : PM N rb cb ps pm w) (ho : Only2 rb cb w w') : PM N rb cb ps pm w' := by
  rcases h with h | ⟨h1, r, h2, h3, h4, h5, h6⟩
  · exact .inl h
  · refine .inr ⟨h1, r, h2, h3, h4, h5, ?_⟩
    unfold MapAt at *
    rw [ho.block r (Array.getElem?_eq_some_iff.1 h6).1 h4 h5]
    exact h6

/-- What params leaves. -/
def Pars (rb cb : Nat) (s sch tok : ByteArray) (R : Option (Ps × List UInt8)) (w : World) (e : Ending) (w' : World) : Prop :=
  (∃ ps rest pm, R = some (ps, rest) ∧ rest <:+ s.data.toList ∧ e = .returned .nilIface ∧ Rd rb s (s.size - rest.length : Nat) w' ∧ Ch cb sch tok pm w' ∧ PM w.heap.size rb cb ps pm w' ∧ Only2 rb cb w w') ∨
  (R = none ∧ ∃ x, e = .returned (.iface 80 x) ∧ Only2 rb cb w w')

/-- Where a round of params stands. -/
def ParInv (rb cb : Nat) (s sch tok : ByteArray) (R : Option (Ps × List UInt8)) (w : World) (k : Nat) (wr : World) : Prop :=
  ∃ n ps pm, s.size - k < n ∧ params n (s.data.toList.drop k) ps = R ∧ Rd rb s k wr ∧ Ch cb sch tok pm wr ∧ PM w.heap.size rb cb ps pm wr ∧ Only2 rb cb w wr

theorem head_at (L : List UInt8) (i : Nat) (c : UInt8) : ((L.drop i).head? == some c) = isAt L i c := by
  rw [List.head?_drop]; rfl
theorem empty_at (L : List UInt8) (i : Nat) : (L.drop i).isEmpty = decide (L.length ≤ i) := by
  by_cases h : L.length ≤ i
  · rw [List.drop_eq_nil_of_le h, decide_eq_true h]; rfl
  · rw [List.drop_eq_getElem_cons (by omega), decide_eq_false h]; rfl

/-- One round of params, by places. -/
theorem params_at (L : List UInt8) (n k : Nat) (ps : Ps) : params (n + 1) (L.drop k) ps =
    if decide (L.length ≤ runEnd spc L k) then some (ps, [])
    else if ((L.drop (runEnd spc L k)).takeWhile tch).isEmpty || !(isAt L (runEnd wsp L (runEnd tch L (runEnd spc L k))) 61) then
      if commaIn L k then some (ps, L.drop (runEnd spc L k)) else none
    else match val (L.drop (runEnd wsp L (runEnd wsp L (runEnd tch L (runEnd spc L k)) + 1))) with
      | none => none
      | some (v, t3) =>
        if ps.any (fun p => p.1 == Lib.toLowerA ((L.drop (runEnd spc L k)).takeWhile tch)) then none
        else if !(t3.dropWhile wsp).isEmpty && !((t3.dropWhile wsp).head? == some 44) then none
        else params n (t3.dropWhile wsp) (ps ++ [(Lib.toLowerA ((L.drop (runEnd spc L k)).takeWhile tch), v)]) := by
  conv => lhs; unfold params
  rw [← drop_runEnd spc L k, ← drop_runEnd tch L _, ← drop_runEnd wsp L _, List.drop_drop, ← drop_runEnd wsp L _, empty_at, head_at]
  rfl

theorem tch_ascii (c : UInt8) (h : tch c = true) : c.toNat < 128 := by
  unfold tch at h
  rcases spans c with h1 | h1 | h1 | h1 | h1 | h1 | h1
  · omega
  · omega
  · omega
  · omega
  · omega
  · omega
  · rw [h1.2, Bool.false_or] at h
    have hm : c ∈ ([33, 35, 36, 37, 38, 39, 42, 43, 45, 46, 94, 95, 96, 124, 126] : List UInt8) := by simpa using h
    simp only [List.mem_cons, List.not_mem_nil, or_false] at hm
    rcases hm with h | h | h | h | h | h | h | h | h | h | h | h | h | h | h <;> (subst h; decide)
end Go.Proofs.Qxb6613049aFmt
