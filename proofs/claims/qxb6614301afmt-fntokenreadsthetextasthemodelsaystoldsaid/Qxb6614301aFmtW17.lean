import Derived.Test.Qxb6614301aFmtW14
import Derived.Test.Qxb6614301aFmtW15
namespace Go.Proofs.Qxb6614301aFmt
open Go.RowKit

/-- Where the reader stands behind n of the tokens l. -/
def posAt (l : List Tk) : Nat → Nat
  | 0 => 0
  | n + 1 => match l[n]? with
    | some t => t.pos
    | none => 0
theorem posAt_app (l : List Tk) (t : Tk) : ∀ n, n ≤ l.length → posAt (l ++ [t]) n = posAt l n
  | 0, _ => rfl
  | n + 1, h => by
    simp only [posAt]
    rw [List.getElem?_append_left (by omega)]
theorem posAt_end (l : List Tk) (t : Tk) : posAt (l ++ [t]) (l.length + 1) = t.pos := by
  simp [posAt]
/-- The tokens l are read from s one after the other; none is the end. -/
def Chain (s : ByteArray) (l : List Tk) : Prop := ∀ n t, l[n]? = some t → tokF s (posAt l n) = some t ∧ t.kind ≠ 0
theorem Chain.nil (s : ByteArray) : Chain s [] := fun n t h => by simp at h
theorem Chain.snoc {s : ByteArray} {l : List Tk} {t : Tk} (h : Chain s l) (ht : tokF s (posAt l l.length) = some t) (hk : t.kind ≠ 0) : Chain s (l ++ [t]) := by
  intro n u hu
  by_cases hn : n < l.length
  · rw [List.getElem?_append_left hn] at hu
    rw [posAt_app l t n (by omega)]
    exact h n u hu
  · by_cases he : n = l.length
    · subst he
      rw [List.getElem?_append_right (Nat.le_refl _)] at hu
      simp at hu
      subst hu
      rw [posAt_app l t l.length (Nat.le_refl _)]
      exact ⟨ht, hk⟩
    · rw [List.getElem?_eq_none (by simp; omega)] at hu
      cases hu
/-- What the model's answer is: the tokens l, up to the end of the file (b false) or up to a string that is never closed (b true). -/
structure Mod (s : ByteArray) (l : List Tk) (b : Bool) : Prop where
  at_ : ∀ n t, l[n]? = some t → tokF s (posAt l n) = some t ∧ (t.kind = 0 ↔ (b = false ∧ n + 1 = l.length))
  bad : b = true → tokF s (posAt l l.length) = none
  ne : b = false → l ≠ []
theorem Chain.bad {s : ByteArray} {l : List Tk} (h : Chain s l) (hn : tokF s (posAt l l.length) = none) : Mod s l true :=
  ⟨fun n t ht => ⟨(h n t ht).1, fun hk => absurd hk (h n t ht).2, fun hb => by simp at hb⟩, fun _ => hn, fun h => by cases h⟩
theorem Chain.fin {s : ByteArray} {l : List Tk} {t : Tk} (h : Chain s l) (ht : tokF s (posAt l l.length) = some t) (hk : t.kind = 0) : Mod s (l ++ [t]) false := by
  refine ⟨fun n u hu => ?_, (fun h => by cases h), fun _ => by simp⟩
  by_cases hn : n < l.length
  · rw [List.getElem?_append_left hn] at hu
    rw [posAt_app l t n (by omega)]
    refine ⟨(h n u hu).1, fun hk => absurd hk (h n u hu).2, fun ⟨_, he⟩ => ?_⟩
    simp at he
    omega
  · by_cases he : n = l.length
    · subst he
      rw [List.getElem?_append_right (Nat.le_refl _)] at hu
      simp at hu
      subst hu
      rw [posAt_app l t l.length (Nat.le_refl _)]
      exact ⟨ht, fun _ => ⟨rfl, by simp⟩, fun _ => hk⟩
    · rw [List.getElem?_eq_none (by simp; omega)] at hu
      cases hu

theorem inw_stop {s : ByteArray} {p q : Nat} {bad : Bool} (h : q < s.size) (hi : inw (byt s q) = false) : wEnd s p q bad = q := by
  rw [wEnd_eq, if_pos h, if_neg (by rw [hi]; simp)]
theorem wEnd_size (s : ByteArray) (p : Nat) (bad : Bool) : wEnd s p s.size bad = s.size := by
  rw [wEnd_eq, if_neg (by omega)]
/-- The end of a run of word bytes. -/
structure WRun (s : ByteArray) (i E : Nat) : Prop where
  le : i ≤ E
  sz : E ≤ s.size
  inn : ∀ k, i ≤ k → k < E → inw (byt s k) = true
  out : E = s.size ∨ (E < s.size ∧ inw (byt s E) = false)
theorem WRun.stop {s : ByteArray} {i E : Nat} (h : WRun s i E) (p : Nat) (bad : Bool) : wEnd s p E bad = E := by
  rcases h.out with h | ⟨h1, h2⟩
  · rw [h]; exact wEnd_size s p bad
  · exact inw_stop h1 h2
theorem wEnd_good {s : ByteArray} {i E : Nat} (h : WRun s i E) (p : Nat) : ∀ (m q q' : Nat), q' - q = m → i ≤ q → q ≤ q' → q' ≤ E → (∀ k, q ≤ k → k < q' → keyc (byt s k) = true) → wEnd s p q false = wEnd s p q' false := by
  intro m
  induction m with
  | zero => intro q q' hm h1 h2 h3 _; rw [show q = q' by omega]
  | succ m ih =>
    intro q q' hm h1 h2 h3 hk
    have hz := h.sz
    have hs := wEnd_step (s := s) (q := p) (k := q) (bad := false) (by omega) (h.inn q h1 (by omega)) rfl
    rw [hk q (Nat.le_refl _) (by omega)] at hs
    rw [← hs]
    exact ih (q + 1) q' (by omega) (by omega) (by omega) h3 (fun k h1 h2 => hk k (by omega) h2)
theorem wEnd_bad {s : ByteArray} {i E : Nat} (h : WRun s i E) (p : Nat) : ∀ (m q : Nat), E - q = m → i ≤ q → q ≤ E → p ≤ q → wEnd s p q true = if 64 < q - p then q else min E (p + 65) := by
  intro m
  induction m with
  | zero =>
    intro q hm h1 h2 h3
    have he : q = E := by omega
    subst he
    rw [h.stop]
    split <;> omega
  | succ m ih =>
    intro q hm h1 h2 h3
    have hz := h.sz
    by_cases h64 : 64 < q - p
    · rw [if_pos h64]
      exact wEnd_stop (by omega) (by simpa using h64)
    · rw [if_neg h64]
      have hs := wEnd_step (s := s) (q := p) (k := q) (bad := true) (by omega) (h.inn q h1 (by omega)) (by simpa using h64)
      rw [← hs]
      have := ih (q + 1) (by omega) (by omega) (by omega) (by omega)
      rw [Bool.true_or, this]
      split <;> omega
theorem wEnd_none {s : ByteArray} {i E : Nat} (h : WRun s i E) (hk : ∀ k, i ≤ k → k < E → keyc (byt s k) = true) : wEnd s i i false = E := by
  rw [wEnd_good h i (E - i) i E rfl (Nat.le_refl _) h.le (Nat.le_refl _) hk, h.stop]
theorem wEnd_some {s : ByteArray} {i E k : Nat} (h : WRun s i E) (hk : i + k < E) (hg : ∀ j, i ≤ j → j < i + k → keyc (byt s j) = true) (hb : keyc (byt s (i + k)) = false) : wEnd s i i false = min E (i + max (k + 1) 65) := by
  rw [wEnd_good h i k i (i + k) (by omega) (Nat.le_refl _) (by omega) (by omega) hg]
  have hz := h.sz
  have hs := wEnd_step (s := s) (q := i) (k := i + k) (bad := false) (by omega) (h.inn (i + k) (by omega) hk) rfl
  rw [hb] at hs
  rw [← hs]
  have := wEnd_bad h i (E - (i + k + 1)) (i + k + 1) rfl (by omega) (by omega) (by omega)
  rw [Bool.false_or, Bool.not_false, this]
  split <;> omega

theorem extract_seg (s : ByteArray) (a b : Nat) (hb : b ≤ s.size) : s.extract a b = ⟨(seg s a (b - a)).toArray⟩ := by
  apply ByteArray.ext
  rw [ByteArray.data_extract]
  apply Array.ext_getElem?
  intro k
  have hl : s.data.size = s.size := rfl
  rw [Array.getElem?_extract]
  by_cases h : k < b - a
  · rw [if_pos (by omega)]
    simp [seg, h, byt]
    rw [Array.getElem?_eq_getElem (by omega)]
    simp
  · rw [if_neg (by omega)]
    rw [List.getElem?_toArray, List.getElem?_eq_none (by simp [seg]; omega)]
end Go.Proofs.Qxb6614301aFmt
