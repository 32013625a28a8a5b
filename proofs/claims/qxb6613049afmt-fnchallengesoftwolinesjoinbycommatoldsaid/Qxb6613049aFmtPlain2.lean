import Derived.Test.Qxb6613049aFmtPlain
namespace Go.Proofs.Qxb6613049aFmt

/-- The rest of a quoted string behind its opening quote: its bytes (behind acc) and what follows the closing quote. -/
def qv : List UInt8 → List UInt8 → Option (List UInt8 × List UInt8)
  | [], _ => none
  | c :: t, acc =>
    if c == 34 then some (acc, t)
    else if c == 92 then
      match t with
      | [] => none
      | d :: t' => if qb d then qv t' (acc ++ [d]) else none
    else if qb c then qv t (acc ++ [c]) else none

/-- A parameter's value at the head of t, and what follows it. -/
def val (t : List UInt8) : Option (List UInt8 × List UInt8) :=
  if t.head? == some 34 then qv (t.drop 1) []
  else if (t.takeWhile tch).isEmpty then none else some (t.takeWhile tch, t.dropWhile tch)

theorem qv_suffix : ∀ (n : Nat) (t acc v rest : List UInt8), t.length ≤ n → qv t acc = some (v, rest) → rest <:+ t ∧ rest.length < t.length := by
  intro n
  induction n with
  | zero =>
    intro t acc v rest hn h
    have : t = [] := List.eq_nil_of_length_eq_zero (by omega)
    subst this
    simp [qv] at h
  | succ n ih =>
    intro t acc v rest hn h
    match t with
    | [] => simp [qv] at h
    | c :: t =>
      unfold qv at h
      simp only [List.length_cons] at hn
      split at h
      · cases h
        exact ⟨List.suffix_cons _ _, by simp⟩
      · split at h
        · match t with
          | [] => simp at h
          | d :: t' =>
            simp only at h
            split at h
            · simp only [List.length_cons] at hn
              obtain ⟨h1, h2⟩ := ih t' _ _ _ (by omega) h
              exact ⟨h1.trans ((List.suffix_cons _ _).trans (List.suffix_cons _ _)), by simp only [List.length_cons]; omega⟩
            · cases h
        · split at h
          · obtain ⟨h1, h2⟩ := ih t _ _ _ (by omega) h
            exact ⟨h1.trans (List.suffix_cons _ _), by simp only [List.length_cons]; omega⟩
          · cases h

theorem val_suffix (t v rest : List UInt8) (h : val t = some (v, rest)) : rest <:+ t ∧ rest.length < t.length := by
  unfold val at h
  split at h
  · match t with
    | [] => simp at *
    | c :: t =>
      simp only [List.drop_succ_cons, List.drop_zero] at h
      obtain ⟨h1, h2⟩ := qv_suffix t.length t _ _ _ (Nat.le_refl _) h
      exact ⟨h1.trans (List.suffix_cons _ _), by simp only [List.length_cons]; omega⟩
  · split at h
    · cases h
    · rename_i hne
      cases h
      refine ⟨List.dropWhile_suffix tch, ?_⟩
      have e : (t.takeWhile tch).length + (t.dropWhile tch).length = t.length := by
        rw [← List.length_append, List.takeWhile_append_dropWhile]
      have : 0 < (t.takeWhile tch).length := by
        cases hx : t.takeWhile tch with
        | nil => rw [hx] at hne; simp at hne
        | cons a l => simp
      omega

theorem drop_of_suffix {L t : List UInt8} (h : t <:+ L) : L.drop (L.length - t.length) = t := by
  obtain ⟨p, rfl⟩ := h
  simp
end Go.Proofs.Qxb6613049aFmt
