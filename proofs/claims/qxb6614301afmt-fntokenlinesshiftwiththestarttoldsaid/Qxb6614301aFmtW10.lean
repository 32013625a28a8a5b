import Derived.Test.Qxb6614301aFmtStop
namespace Go.Proofs.Qxb6614301aFmt
open Go.RowKit

theorem seg_append (s : ByteArray) (q m n : Nat) : seg s q (m + n) = seg s q m ++ seg s (q + m) n := by
  apply List.ext_getElem?
  intro i
  by_cases h1 : i < m
  · rw [List.getElem?_append_left (by rw [seg_len]; exact h1), seg_get s q m i h1, seg_get s q (m + n) i (by omega)]
  · rw [List.getElem?_append_right (by rw [seg_len]; omega), seg_len]
    by_cases h2 : i < m + n
    · rw [seg_get s q (m + n) i h2, seg_get s (q + m) n (i - m) (by omega), show q + m + (i - m) = q + i by omega]
    · rw [List.getElem?_eq_none (by rw [seg_len]; omega), List.getElem?_eq_none (by rw [seg_len]; omega)]
theorem seg_zero (s : ByteArray) (q : Nat) : seg s q 0 = [] := rfl
theorem seg_one (s : ByteArray) (q : Nat) : seg s q 1 = [byt s q] := by simp [seg]
/-- The line breaks ahead of place p. -/
def cnt (s : ByteArray) (p : Nat) : Nat := (seg s 0 p).count 10
theorem cnt_add (s : ByteArray) (p n : Nat) : cnt s (p + n) = cnt s p + (seg s p n).count 10 := by
  unfold cnt
  rw [seg_append, List.count_append, Nat.zero_add]
theorem cnt_nl {s : ByteArray} {p : Nat} (h : byt s p = 10) : cnt s (p + 1) = cnt s p + 1 := by
  rw [cnt_add, seg_one, h]; rfl
theorem cnt_no {s : ByteArray} {p : Nat} (h : byt s p ≠ 10) : cnt s (p + 1) = cnt s p := by
  rw [cnt_add, seg_one, List.count_cons, if_neg (by simpa using h)]; rfl
theorem cnt_noD {s : ByteArray} {a b : Nat} (hab : a ≤ b) (h : NoD s 10 a b) : cnt s b = cnt s a := by
  obtain ⟨n, rfl⟩ : ∃ n, b = a + n := ⟨b - a, by omega⟩
  rw [cnt_add, List.count_eq_zero_of_not_mem, Nat.add_zero]
  intro hm
  simp only [seg, List.mem_map, List.mem_range] at hm
  obtain ⟨j, hj, he⟩ := hm
  exact h (a + j) (by omega) (by omega) he

/-- The first d at p or behind it, or the end; n: how many places are left. -/
def nxtN (s : ByteArray) (d : UInt8) : Nat → Nat → Nat
  | 0, p => p
  | n + 1, p => if p < s.size then (if byt s p = d then p else nxtN s d n (p + 1)) else p
/-- The first d at p or behind it, or the end. -/
def nxt (s : ByteArray) (d : UInt8) (p : Nat) : Nat := nxtN s d (s.size - p) p
theorem nxt_eq (s : ByteArray) (d : UInt8) (p : Nat) : nxt s d p = if p < s.size then (if byt s p = d then p else nxt s d (p + 1)) else p := by
  unfold nxt
  by_cases h : p < s.size
  · rw [show s.size - p = (s.size - (p + 1)) + 1 by omega]
    rfl
  · rw [show s.size - p = 0 by omega, if_neg h]
    rfl
theorem nxt_ge (s : ByteArray) (d : UInt8) (p : Nat) : p ≤ nxt s d p := by
  obtain ⟨m, hm⟩ : ∃ m, s.size - p = m := ⟨_, rfl⟩
  induction m generalizing p with
  | zero => rw [nxt_eq, if_neg (by omega)]; exact Nat.le_refl _
  | succ m ih =>
    rw [nxt_eq, if_pos (by omega)]
    split
    · exact Nat.le_refl _
    · have := ih (p + 1) (by omega)
      omega
theorem nxt_at {s : ByteArray} {d : UInt8} {p j : Nat} (hp : p ≤ j) (hj : j < s.size) (hd : byt s j = d) (hn : NoD s d p j) : nxt s d p = j := by
  obtain ⟨n, rfl⟩ : ∃ n, j = p + n := ⟨j - p, by omega⟩
  induction n generalizing p with
  | zero => rw [nxt_eq, if_pos (by omega), if_pos (show byt s p = d from hd)]; rfl
  | succ n ih =>
    rw [nxt_eq, if_pos (by omega), if_neg (hn p (by omega) (by omega)), ih (p := p + 1) (by omega) (by omega) (by rw [← hd]; congr 1; omega) (fun k h1 h2 => hn k (by omega) (by omega))]
    omega
theorem nxt_end {s : ByteArray} {d : UInt8} {p : Nat} (hp : p ≤ s.size) (hn : NoD s d p s.size) : nxt s d p = s.size := by
  obtain ⟨n, hn'⟩ : ∃ n, s.size = p + n := ⟨s.size - p, by omega⟩
  induction n generalizing p with
  | zero => rw [nxt_eq, if_neg (by omega)]; omega
  | succ n ih => rw [nxt_eq, if_pos (by omega), if_neg (hn p (by omega) (by omega)), ih (p := p + 1) (by omega) (fun k h1 h2 => hn k (by omega) h2) (by omega)]

/-- A byte that goes on a word. -/
def inw (c : UInt8) : Bool := !(spc c) && c != 10 && c != 91 && c != 93 && c != 34
/-- The end of the word that begins at p, read as far as q; n: how many places are left. -/
def wEndN (s : ByteArray) (p : Nat) : Nat → Nat → Bool → Nat
  | 0, q, _ => q
  | n + 1, q, bad => if q < s.size then (if inw (byt s q) && !(bad && decide (64 < q - p)) then wEndN s p n (q + 1) (bad || !keyc (byt s q)) else q) else q
/-- The end of the word that begins at p, read as far as q. -/
def wEnd (s : ByteArray) (p q : Nat) (bad : Bool) : Nat := wEndN s p (s.size - q) q bad
theorem wEnd_eq (s : ByteArray) (p q : Nat) (bad : Bool) : wEnd s p q bad = if q < s.size then (if inw (byt s q) && !(bad && decide (64 < q - p)) then wEnd s p (q + 1) (bad || !keyc (byt s q)) else q) else q := by
  unfold wEnd
  by_cases h : q < s.size
  · rw [show s.size - q = (s.size - (q + 1)) + 1 by omega]
    rfl
  · rw [show s.size - q = 0 by omega, if_neg h]
    rfl
theorem wEnd_ge (s : ByteArray) (p q : Nat) (bad : Bool) : q ≤ wEnd s p q bad := by
  obtain ⟨m, hm⟩ : ∃ m, s.size - q = m := ⟨_, rfl⟩
  induction m generalizing q bad with
  | zero => rw [wEnd_eq, if_neg (by omega)]; exact Nat.le_refl _
  | succ m ih =>
    rw [wEnd_eq, if_pos (by omega)]
    split
    · have := ih (q + 1) (bad || !keyc (byt s q)) (by omega)
      omega
    · exact Nat.le_refl _
theorem wEnd_le (s : ByteArray) (p q : Nat) (bad : Bool) (h : q ≤ s.size) : wEnd s p q bad ≤ s.size := by
  obtain ⟨m, hm⟩ : ∃ m, s.size - q = m := ⟨_, rfl⟩
  induction m generalizing q bad with
  | zero => rw [wEnd_eq, if_neg (by omega)]; exact h
  | succ m ih =>
    rw [wEnd_eq, if_pos (by omega)]
    split
    · exact ih (q + 1) _ (by omega) (by omega)
    · exact h
theorem inw_no10 {c : UInt8} (h : inw c = true) : c ≠ 10 := by
  rintro rfl
  cases h
theorem wEnd_no10 (s : ByteArray) (p q : Nat) (bad : Bool) : NoD s 10 q (wEnd s p q bad) := by
  obtain ⟨m, hm⟩ : ∃ m, s.size - q = m := ⟨_, rfl⟩
  induction m generalizing q bad with
  | zero => rw [wEnd_eq, if_neg (by omega)]; intro k k1 k2; omega
  | succ m ih =>
    rw [wEnd_eq, if_pos (by omega)]
    split
    · rename_i h2
      intro k k1 k2
      by_cases hk : k = q
      · subst hk
        exact inw_no10 (by simp only [Bool.and_eq_true] at h2; exact h2.1)
      · exact ih (q + 1) _ (by omega) k (by omega) k2
    · intro k k1 k2; omega

structure Tk where
  kind : UInt8
  text : List UInt8
  line : Nat
  pos : Nat
/-- The next token at place p; none: a string that is never closed; n: how many steps are left. -/
def tokN (s : ByteArray) : Nat → Nat → Option Tk
  | 0, p => some ⟨0, [], cnt s p, p⟩
  | n + 1, p =>
    if _h : p < s.size then
      if byt s p = 10 ∨ spc (byt s p) = true then tokN s n (p + 1)
      else if byt s p = 35 then tokN s n (min (nxt s 10 (p + 1) + 1) s.size)
      else if byt s p = 91 ∨ byt s p = 93 then some ⟨byt s p, [], cnt s p, p + 1⟩
      else if byt s p = 34 then (if nxt s 34 (p + 1) < s.size then some ⟨34, seg s (p + 1) (nxt s 34 (p + 1) - (p + 1)), cnt s p, nxt s 34 (p + 1) + 1⟩ else none)
      else some ⟨119, seg s p (wEnd s p p false - p), cnt s p, wEnd s p p false⟩
    else some ⟨0, [], cnt s p, p⟩
theorem tokN_any (s : ByteArray) : ∀ (m n p : Nat), s.size - p ≤ m → s.size - p ≤ n → tokN s m p = tokN s n p := by
  intro m
  induction m with
  | zero =>
    intro n p h1 h2
    cases n with
    | zero => rfl
    | succ n => rw [tokN, tokN, dif_neg (by omega)]
  | succ m ih =>
    intro n p h1 h2
    cases n with
    | zero => rw [tokN, tokN, dif_neg (by omega)]
    | succ n =>
      by_cases h : p < s.size
      · have hn := nxt_ge s 10 (p + 1)
        rw [tokN, tokN, dif_pos h, dif_pos h, ih n (p + 1) (by omega) (by omega), ih n (min (nxt s 10 (p + 1) + 1) s.size) (by omega) (by omega)]
      · rw [tokN, tokN, dif_neg h, dif_neg h]
/-- The next token at place p; none: a string that is never closed. -/
def tokF (s : ByteArray) (p : Nat) : Option Tk := tokN s (s.size - p) p
theorem tokF_eq (s : ByteArray) (p : Nat) : tokF s p =
    if _h : p < s.size then
      if byt s p = 10 ∨ spc (byt s p) = true then tokF s (p + 1)
      else if byt s p = 35 then tokF s (min (nxt s 10 (p + 1) + 1) s.size)
      else if byt s p = 91 ∨ byt s p = 93 then some ⟨byt s p, [], cnt s p, p + 1⟩
      else if byt s p = 34 then (if nxt s 34 (p + 1) < s.size then some ⟨34, seg s (p + 1) (nxt s 34 (p + 1) - (p + 1)), cnt s p, nxt s 34 (p + 1) + 1⟩ else none)
      else some ⟨119, seg s p (wEnd s p p false - p), cnt s p, wEnd s p p false⟩
    else some ⟨0, [], cnt s p, p⟩ := by
  have hn := nxt_ge s 10 (p + 1)
  unfold tokF
  by_cases h : p < s.size
  · rw [tokN_any s (s.size - p) (s.size - (p + 1) + 1) p (by omega) (by omega), tokN, tokN_any s (s.size - (p + 1)) (s.size - min (nxt s 10 (p + 1) + 1) s.size) (min (nxt s 10 (p + 1) + 1) s.size) (by omega) (by omega)]
  · rw [show s.size - p = 0 by omega, tokN, dif_neg h]
end Go.Proofs.Qxb6614301aFmt
