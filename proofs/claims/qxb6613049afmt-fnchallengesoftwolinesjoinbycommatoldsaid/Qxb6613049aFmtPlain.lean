namespace Go.Proofs.Qxb6613049aFmt

def wsp (c : UInt8) : Bool := c == 32 || c == 9
def spc (c : UInt8) : Bool := wsp c || c == 44

/-- Where the run of p from place i on ends. -/
def runEnd (p : UInt8 → Bool) (L : List UInt8) (i : Nat) : Nat := i + ((L.drop i).takeWhile p).length

theorem runEnd_ge (p : UInt8 → Bool) (L : List UInt8) (i : Nat) : i ≤ runEnd p L i := Nat.le_add_right _ _
theorem takeWhile_len_le (p : UInt8 → Bool) (l : List UInt8) : (l.takeWhile p).length ≤ l.length := (List.takeWhile_prefix p).length_le
theorem runEnd_le (p : UInt8 → Bool) (L : List UInt8) (i : Nat) (h : i ≤ L.length) : runEnd p L i ≤ L.length := by
  have := takeWhile_len_le p (L.drop i)
  rw [List.length_drop] at this
  unfold runEnd
  omega
theorem runEnd_step (p : UInt8 → Bool) (L : List UInt8) (i : Nat) (h : i < L.length) (hp : p L[i] = true) : runEnd p L (i + 1) = runEnd p L i := by
  unfold runEnd
  rw [List.drop_eq_getElem_cons h, List.takeWhile_cons_of_pos hp]
  simp only [List.length_cons]
  omega
theorem runEnd_stop (p : UInt8 → Bool) (L : List UInt8) (i : Nat) (h : i < L.length) (hp : p L[i] = false) : runEnd p L i = i := by
  unfold runEnd
  rw [List.drop_eq_getElem_cons h, List.takeWhile_cons_of_neg (by simp [hp])]
  simp
theorem runEnd_end (p : UInt8 → Bool) (L : List UInt8) (i : Nat) (h : L.length ≤ i) : runEnd p L i = i := by
  unfold runEnd
  rw [List.drop_eq_nil_of_le h]
  simp
theorem drop_runEnd (p : UInt8 → Bool) (L : List UInt8) (i : Nat) : L.drop (runEnd p L i) = (L.drop i).dropWhile p := by
  unfold runEnd
  rw [← List.drop_drop]
  generalize L.drop i = t
  calc t.drop (t.takeWhile p).length = (t.takeWhile p ++ t.dropWhile p).drop (t.takeWhile p).length := by rw [List.takeWhile_append_dropWhile]
    _ = t.dropWhile p := List.drop_left
theorem slice_runEnd (p : UInt8 → Bool) (L : List UInt8) (i : Nat) : (L.take (runEnd p L i)).drop i = (L.drop i).takeWhile p := by
  unfold runEnd
  rw [← List.take_drop]
  generalize L.drop i = t
  exact (List.prefix_iff_eq_take.1 (List.takeWhile_prefix p)).symm
/-- A run's end is no member of the run. -/
theorem runEnd_not (p : UInt8 → Bool) (L : List UInt8) (i : Nat) (h : runEnd p L i < L.length) : p L[runEnd p L i] = false := by
  have e := drop_runEnd p L i
  rw [List.drop_eq_getElem_cons h] at e
  have := List.head?_dropWhile_not p (L.drop i)
  rw [← e] at this
  exact this
theorem runEnd_idem (p : UInt8 → Bool) (L : List UInt8) (i : Nat) : runEnd p L (runEnd p L i) = runEnd p L i := by
  by_cases h : runEnd p L i < L.length
  · exact runEnd_stop p L _ h (runEnd_not p L i h)
  · exact runEnd_end p L _ (by omega)

/-- A comma stands in the run of blanks and commas. -/
def commaIn (L : List UInt8) (i : Nat) : Bool := ((L.drop i).takeWhile spc).contains 44
theorem runEnd_wsp_spc (L : List UInt8) (i : Nat) (h : i ≤ L.length) : runEnd spc L (runEnd wsp L i) = runEnd spc L i ∧ commaIn L (runEnd wsp L i) = commaIn L i := by
  generalize hn : L.length - i = n
  induction n generalizing i with
  | zero =>
    rw [runEnd_end wsp L i (by omega)]
    exact ⟨rfl, rfl⟩
  | succ n ih =>
    have hi : i < L.length := by omega
    cases hw : wsp L[i] with
    | false => rw [runEnd_stop wsp L i hi hw]; exact ⟨rfl, rfl⟩
    | true =>
      have hs : spc L[i] = true := by simp [spc, hw]
      have h44 : ((44 : UInt8) == L[i]) = false := by
        cases h4 : ((44 : UInt8) == L[i]) with
        | false => rfl
        | true => rw [← eq_of_beq h4] at hw; cases hw
      rw [← runEnd_step wsp L i hi hw, ← runEnd_step spc L i hi hs]
      have := ih (i + 1) (by omega) (by omega)
      refine ⟨this.1, this.2.trans ?_⟩
      unfold commaIn
      rw [List.drop_eq_getElem_cons hi, List.takeWhile_cons_of_pos hs, List.contains_cons, h44, Bool.false_or]
theorem comma_step (L : List UInt8) (i : Nat) (h : i < L.length) (hc : L[i] = 44) : runEnd spc L (i + 1) = runEnd spc L i ∧ commaIn L i = true := by
  have hs : spc L[i] = true := by rw [hc]; rfl
  refine ⟨runEnd_step spc L i h hs, ?_⟩
  unfold commaIn
  rw [List.drop_eq_getElem_cons h, List.takeWhile_cons_of_pos hs, List.contains_cons, hc]
  rfl
theorem comma_stop (L : List UInt8) (i : Nat) (hw : runEnd wsp L i = i) (hc : ∀ h : i < L.length, L[i] ≠ 44) : runEnd spc L i = i ∧ commaIn L i = false := by
  by_cases h : i < L.length
  · have hw2 : wsp L[i] = false := by
      cases hx : wsp L[i] with
      | false => rfl
      | true =>
        have h1 := runEnd_step wsp L i h hx
        have h2 := runEnd_ge wsp L (i + 1)
        omega
    have hs : spc L[i] = false := by simp [spc, hw2, hc h]
    refine ⟨runEnd_stop spc L i h hs, ?_⟩
    unfold commaIn
    rw [List.drop_eq_getElem_cons h, List.takeWhile_cons_of_neg (by simp [hs])]
    rfl
  · refine ⟨runEnd_end spc L i (by omega), ?_⟩
    unfold commaIn
    rw [List.drop_eq_nil_of_le (by omega)]
    rfl

def alnum (c : UInt8) : Bool := (97 ≤ c && c ≤ 122) || (65 ≤ c && c ≤ 90) || (48 ≤ c && c ≤ 57)
def tch (c : UInt8) : Bool := alnum c || [33, 35, 36, 37, 38, 39, 42, 43, 45, 46, 94, 95, 96, 124, 126].contains c
def t68 (c : UInt8) : Bool := alnum c || [45, 46, 95, 126, 43, 47].contains c
def qb (c : UInt8) : Bool := c == 9 || (32 ≤ c && c != 127)
end Go.Proofs.Qxb6613049aFmt
