import Derived.Test.Qxb6613049aFmtPlain3
namespace Go.Proofs.Qxb6613049aFmt

/-- A challenge: scheme, token68, parameters. -/
abbrev Chal := List UInt8 × List UInt8 × List (List UInt8 × List UInt8)

def eq61 (c : UInt8) : Bool := c == 61
/-- A token68 at the head of t that stands alone up to the end of its list element: it, and what follows it. -/
def tok68 (t : List UInt8) : Option (List UInt8 × List UInt8) :=
  if (t.takeWhile t68).isEmpty then none
  else if (((t.dropWhile t68).dropWhile eq61).dropWhile wsp).isEmpty || ((((t.dropWhile t68).dropWhile eq61).dropWhile wsp).head? == some 44) then
    some (t.takeWhile t68 ++ (t.dropWhile t68).takeWhile eq61, ((t.dropWhile t68).dropWhile eq61).dropWhile wsp)
  else none

/-- What stands behind a scheme: token68, parameters, rest. -/
def body (t2 : List UInt8) : Option (List UInt8 × List (List UInt8 × List UInt8) × List UInt8) :=
  if (t2.takeWhile wsp).isEmpty then some ([], [], t2)
  else match tok68 (t2.dropWhile wsp) with
    | some (tk, rest) => some (tk, [], rest)
    | none => match params ((t2.dropWhile wsp).length + 1) (t2.dropWhile wsp) [] with
      | some (ps, rest) => some ([], ps, rest)
      | none => none

/-- The challenges of t, behind acc. -/
def chals : Nat → List UInt8 → List Chal → Option (List Chal)
  | 0, _, _ => none
  | n + 1, t, acc =>
    if (t.dropWhile spc).isEmpty then some acc
    else if ((t.dropWhile spc).takeWhile tch).isEmpty then none
    else match body ((t.dropWhile spc).dropWhile tch) with
      | none => none
      | some (tk, ps, rest) => chals n rest (acc ++ [((t.dropWhile spc).takeWhile tch, tk, ps)])

theorem dropWhile_len_le (p : UInt8 → Bool) (l : List UInt8) : (l.dropWhile p).length ≤ l.length := (List.dropWhile_suffix p).length_le
theorem dropWhile_len_lt (p : UInt8 → Bool) (l : List UInt8) (h : (l.takeWhile p).isEmpty = false) : (l.dropWhile p).length < l.length := by
  have e : (l.takeWhile p).length + (l.dropWhile p).length = l.length := by rw [← List.length_append, List.takeWhile_append_dropWhile]
  have : 0 < (l.takeWhile p).length := by
    cases hx : l.takeWhile p with
    | nil => rw [hx] at h; cases h
    | cons a l => simp
  omega

theorem params_fuel : ∀ (n m : Nat) (t : List UInt8) (ps : List (List UInt8 × List UInt8)), t.length < n → t.length < m → params n t ps = params m t ps := by
  intro n
  induction n with
  | zero => intro m t ps h; omega
  | succ n ih =>
    intro m t ps hn hm
    obtain ⟨m, rfl⟩ : ∃ m', m = m' + 1 := ⟨m - 1, by omega⟩
    unfold params
    split
    · rfl
    · rename_i h1
      split
      · rfl
      · rename_i h2
        split
        · rfl
        · rename_i v t3 hv
          split
          · rfl
          · split
            · rfl
            · have h3 := (val_suffix _ _ _ hv).2
              have h4 := dropWhile_len_le wsp t3
              have h5 := dropWhile_len_le wsp ((((t.dropWhile spc).dropWhile tch).dropWhile wsp).drop 1)
              have h6 := dropWhile_len_le wsp ((t.dropWhile spc).dropWhile tch)
              have h7 := dropWhile_len_le tch (t.dropWhile spc)
              have h8 := dropWhile_len_le spc t
              rw [List.length_drop] at h5
              exact ih m _ _ (by omega) (by omega)

theorem params_suffix : ∀ (n : Nat) (t : List UInt8) (ps ps' : List (List UInt8 × List UInt8)) (rest : List UInt8), params n t ps = some (ps', rest) → rest <:+ t := by
  intro n
  induction n with
  | zero => intro t ps ps' rest h; simp [params] at h
  | succ n ih =>
    intro t ps ps' rest h
    unfold params at h
    split at h
    · cases h; exact List.nil_suffix
    · split at h
      · split at h
        · cases h; exact List.dropWhile_suffix _
        · cases h
      · split at h
        · cases h
        · rename_i v t3 hv
          split at h
          · cases h
          · split at h
            · cases h
            · have h1 := ih _ _ _ _ h
              have h2 := (val_suffix _ _ _ hv).1
              exact h1.trans ((List.dropWhile_suffix _).trans (h2.trans ((List.dropWhile_suffix _).trans ((List.drop_suffix _ _).trans ((List.dropWhile_suffix _).trans ((List.dropWhile_suffix _).trans (List.dropWhile_suffix _)))))))

theorem tok68_suffix (t tk rest : List UInt8) (h : tok68 t = some (tk, rest)) : rest <:+ t := by
  unfold tok68 at h
  split at h
  · cases h
  · split at h
    · cases h
      exact (List.dropWhile_suffix _).trans ((List.dropWhile_suffix _).trans (List.dropWhile_suffix _))
    · cases h

theorem body_suffix (t tk rest : List UInt8) (ps : List (List UInt8 × List UInt8)) (h : body t = some (tk, ps, rest)) : rest <:+ t := by
  unfold body at h
  split at h
  · cases h; exact List.suffix_refl _
  · split at h
    · rename_i hx
      cases h
      exact (tok68_suffix _ _ _ hx).trans (List.dropWhile_suffix _)
    · split at h
      · rename_i hx
        cases h
        exact (params_suffix _ _ _ _ _ hx).trans (List.dropWhile_suffix _)
      · cases h
end Go.Proofs.Qxb6613049aFmt
