import Derived.Test.Qxb6613049aFmtW8
import Derived.Test.Qxb6613049aFmtPlain4
namespace Go.Proofs.Qxb6613049aFmt
open Go.RowKit Go.Stop

/-- Every map of w stands as it stood. -/
def MK (w w' : World) : Prop := ∀ (r : Nat) (es : Array MapEntry) (n : Nat), w.heap[r]? = some (.map es n) → w'.heap[r]? = some (.map es n)
theorem MK.refl (w : World) : MK w w := fun _ _ _ h => h
theorem MK.trans {a b c : World} (h : MK a b) (k : MK b c) : MK a c := fun r es n hr => k r es n (h r es n hr)
theorem Only2.keeps {rb cb : Nat} {w w' : World} {xs ys : Array Value} {t u : TypeId} {f g : Nat × Nat} (h : Only2 rb cb w w') (hr : w.heap[rb]? = some (.cells xs t f)) (hc : w.heap[cb]? = some (.cells ys u g)) : MK w w' := by
  intro r es n hm
  rw [h.block r (Array.getElem?_eq_some_iff.1 hm).1 (fun e => by subst e; rw [hr] at hm; cases hm) (fun e => by subst e; rw [hc] at hm; cases hm)]
  exact hm
theorem Only.keeps {rb : Nat} {w w' : World} {s : ByteArray} {p : Int} (h : Only rb w w') (hr : Rd rb s p w) : MK w w' := by
  obtain ⟨r, hr⟩ := hr
  exact Only2.keeps (h.two rb) hr hr
theorem MK.below {w w' : World} (h : Below w.heap.size w w') : MK w w' := fun r _ _ hm => (h.block r (Array.getElem?_eq_some_iff.1 hm).1).trans hm

/-- A map field that holds ps. -/
def MP (ps : Ps) (pm : Value) (w : World) : Prop := (ps = [] ∧ pm = .map none) ∨ (ps ≠ [] ∧ ∃ r, pm = .map (some r) ∧ MapAt r ps w)
theorem MP.keeps {ps : Ps} {pm : Value} {w w' : World} (h : MP ps pm w) (hk : MK w w') : MP ps pm w' := by
  rcases h with h | ⟨h1, r, h2, h3⟩
  · exact .inl h
  · exact .inr ⟨h1, r, h2, hk r _ _ h3⟩
theorem PM.mp {N rb cb : Nat} {ps : Ps} {pm : Value} {w : World} (h : PM N rb cb ps pm w) : MP ps pm w := by
  rcases h with h | ⟨h1, r, h2, _, _, _, h3⟩
  · exact .inl h
  · exact .inr ⟨h1, r, h2, h3⟩

/-- The cells of a row of challenges. -/
def Row : List Chal → List Value → World → Prop
  | [], xs, _ => xs = []
  | c :: cs, xs, w => ∃ pm ys, xs = .string ⟨c.1.toArray⟩ :: .string ⟨c.2.1.toArray⟩ :: pm :: ys ∧ MP c.2.2 pm w ∧ Row cs ys w
theorem Row.keeps {w w' : World} (hk : MK w w') : ∀ {cs : List Chal} {xs : List Value}, Row cs xs w → Row cs xs w'
  | [], _, h => h
  | _ :: _, _, ⟨pm, ys, h1, h2, h3⟩ => ⟨pm, ys, h1, h2.keeps hk, Row.keeps hk h3⟩
theorem Row.snoc {w : World} {c : Chal} {pm : Value} (hm : MP c.2.2 pm w) : ∀ {cs : List Chal} {xs : List Value}, Row cs xs w → Row (cs ++ [c]) (xs ++ [.string ⟨c.1.toArray⟩, .string ⟨c.2.1.toArray⟩, pm]) w
  | [], xs, h => by
    have : xs = [] := h
    subst this
    exact ⟨pm, [], rfl, hm, rfl⟩
  | d :: cs, xs, ⟨pm', ys, h1, h2, h3⟩ => ⟨pm', _, by rw [h1]; rfl, h2, Row.snoc hm h3⟩
theorem Row.len {w : World} : ∀ {cs : List Chal} {xs : List Value}, Row cs xs w → xs.length = cs.length * 3
  | [], xs, h => by
    have : xs = [] := h
    subst this; rfl
  | c :: cs, xs, ⟨pm, ys, h1, h2, h3⟩ => by
    have := Row.len h3
    rw [h1]; simp; omega

theorem split_at (L : List UInt8) (i a b : Nat) (h1 : i ≤ a) (h2 : a ≤ b) (h3 : a ≤ L.length ∨ L.length ≤ i) : (L.take b).drop i = (L.take a).drop i ++ (L.take b).drop a := by
  rcases h3 with h3 | h3
  · have e : L.take b = L.take a ++ (L.take b).drop a := by
      conv => lhs; rw [← List.take_append_drop a (L.take b)]
      rw [List.take_take, Nat.min_eq_left h2]
    conv => lhs; rw [e]
    rw [List.drop_append_of_le_length (by rw [List.length_take]; omega)]
  · rw [List.drop_eq_nil_of_le (by rw [List.length_take]; omega), List.drop_eq_nil_of_le (by rw [List.length_take]; omega), List.drop_eq_nil_of_le (by rw [List.length_take]; omega)]
    rfl

theorem tok68_at (L : List UInt8) (i : Nat) : tok68 (L.drop i) = if t68Stands L i then some ((L.take (t68End L i)).drop i, L.drop (runEnd wsp L (t68End L i))) else none := by
  have hb1 : ((L.drop i).takeWhile t68).isEmpty = !(decide (i < runEnd t68 L i)) := by
    unfold runEnd
    cases h : (L.drop i).takeWhile t68 with
    | nil => simp
    | cons a l => simp
  have e1 : (((L.drop i).dropWhile t68).dropWhile eq61).dropWhile wsp = L.drop (runEnd wsp L (t68End L i)) := by
    rw [drop_runEnd, show L.drop (t68End L i) = ((L.drop i).dropWhile t68).dropWhile eq61 from by
      unfold t68End; rw [drop_runEnd, drop_runEnd]; rfl]
  have e2 : (L.take (t68End L i)).drop i = (L.drop i).takeWhile t68 ++ ((L.drop i).dropWhile t68).takeWhile eq61 := by
    have h1 := slice_runEnd t68 L i
    have h2 := slice_runEnd eqs L (runEnd t68 L i)
    have h3 := runEnd_ge t68 L i
    have h4 := runEnd_ge eqs L (runEnd t68 L i)
    rw [drop_runEnd] at h2
    show (L.take (runEnd eqs L (runEnd t68 L i))).drop i = (L.drop i).takeWhile t68 ++ ((L.drop i).dropWhile t68).takeWhile eqs
    rw [← h1, ← h2]
    refine split_at L i _ _ h3 h4 ?_
    rcases Nat.lt_or_ge L.length i with h | h
    · exact .inr (by omega)
    · exact .inl (runEnd_le t68 L i h)
  unfold tok68 t68Stands
  rw [hb1, e1, ← e2, empty_at, head_at]
  cases decide (i < runEnd t68 L i) <;> simp
end Go.Proofs.Qxb6613049aFmt
