import Derived.Test.Qxb6614301aFmtStop
namespace Go.Proofs.Qxb6614301aFmt
open Go.RowKit

theorem seg_append (s : ByteArray) (q m n : Nat) : seg s q (m + n) = seg s q m ++ seg s (q + m) n := by
  apply List.ext_getElem?
  intro i
  by_cases h1 : i < m
  · rw [List.getElem?_append_left (by rw [seg_len]; exact h1), seg_get s q m i h1, seg_get s q (m + n) i (by omega)]
  · rw [List.getElem?_append_right (by rw [seg_len]; omega), seg_len]
    by_cases h2 : i < m + n
    · rw [seg_get s q (m + n) i h2, seg_get s (q + m) n (i - m) (by omega), show q + m + (i - m) = q + i by omega]
    · rw [List.getElem?_eq_none (by rw [seg_len]; omega), List.getElem?_eq_none (by rw [seg_len]; omega)]
theorem seg_zero (s : ByteArray) (q : Nat) : seg s q 0 = [] := rfl
theorem seg_one (s : ByteArray) (q : Nat) : seg s q 1 = [byt s q] := by simp [seg]
/-- The line breaks ahead of place p. -/
def cnt (s : ByteArray) (p : Nat) : Nat := (seg s 0 p).count 10
theorem cnt_add (s : ByteArray) (p n : Nat) : cnt s (p + n) = cnt s p + (seg s p n).count 10 := by
  unfold cnt
  rw [seg_append, List.count_append, Nat.zero_add]
theorem cnt_nl {s : ByteArray} {p : Nat} (h : byt s p = 10) : cnt s (p + 1) = cnt s p + 1 := by
  rw [cnt_add, seg_one, h]; rfl
theorem cnt_no {s : ByteArray} {p : Nat} (h : byt s p ≠ 10) : cnt s (p + 1) = cnt s p := by
  rw [cnt_add, seg_one, List.count_cons, if_neg (by simpa using h)]; rfl
theorem cnt_noD {s : ByteArray} {a b : Nat} (hab : a ≤ b) (h : NoD s 10 a b) : cnt s b = cnt s a := by
  obtain ⟨n, rfl⟩ : ∃ n, b = a + n := ⟨b - a, by omega⟩
  rw [cnt_add, List.count_eq_zero_of_not_mem, Nat.add_zero]
  intro hm
  simp only [seg, List.mem_map, List.mem_range] at hm
  obtain ⟨j, hj, he⟩ := hm
  exact h (a + j) (by omega) (by omega) he

/-- The first d at p or behind it, or the end. -/
def nxt (s : ByteArray) (d : UInt8) (p : Nat) : Nat := if p < s.size then (if byt s p = d then p else nxt s d (p + 1)) else p
termination_by s.size - p
theorem nxt_ge (s : ByteArray) (d : UInt8) (p : Nat) : p ≤ nxt s d p := by
  induction p using nxt.induct s d with
  | case1 p h1 h2 => rw [nxt, if_pos h1, if_pos h2]; exact Nat.le_refl _
  | case2 p h1 h2 ih => rw [nxt, if_pos h1, if_neg h2]; omega
  | case3 p h => rw [nxt, if_neg h]; exact Nat.le_refl _
theorem nxt_at {s : ByteArray} {d : UInt8} {p j : Nat} (hp : p ≤ j) (hj : j < s.size) (hd : byt s j = d) (hn : NoD s d p j) : nxt s d p = j := by
  obtain ⟨n, rfl⟩ : ∃ n, j = p + n := ⟨j - p, by omega⟩
  induction n generalizing p with
  | zero => rw [nxt, if_pos (by omega), if_pos (show byt s p = d from hd)]; rfl
  | succ n ih =>
    rw [nxt, if_pos (by omega), if_neg (hn p (by omega) (by omega)), ih (p := p + 1) (by omega) (by omega) (by rw [← hd]; congr 1; omega) (fun k h1 h2 => hn k (by omega) (by omega))]
    omega
theorem nxt_end {s : ByteArray} {d : UInt8} {p : Nat} (hp : p ≤ s.size) (hn : NoD s d p s.size) : nxt s d p = s.size := by
  obtain ⟨n, hn'⟩ : ∃ n, s.size = p + n := ⟨s.size - p, by omega⟩
  induction n generalizing p with
  | zero => rw [nxt, if_neg (by omega)]; omega
  | succ n ih => rw [nxt, if_pos (by omega), if_neg (hn p (by omega) (by omega)), ih (p := p + 1) (by omega) (fun k h1 h2 => hn k (by omega) h2) (by omega)]

/-- A byte that goes on a word. -/
def inw (c : UInt8) : Bool := !(spc c) && c != 10 && c != 91 && c != 93 && c != 34
/-- The end of the word that begins at p, read as far as q. -/
def wEnd (s : ByteArray) (p q : Nat) (bad : Bool) : Nat := if q < s.size then (if inw (byt s q) && !(bad && decide (64 < q - p)) then wEnd s p (q + 1) (bad || !keyc (byt s q)) else q) else q
termination_by s.size - q
theorem wEnd_ge (s : ByteArray) (p q : Nat) (bad : Bool) : q ≤ wEnd s p q bad := by
  induction q, bad using wEnd.induct s p with
  | case1 q bad h1 h2 ih => rw [wEnd, if_pos h1, if_pos h2]; omega
  | case2 q bad h1 h2 => rw [wEnd, if_pos h1, if_neg h2]; exact Nat.le_refl _
  | case3 q bad h => rw [wEnd, if_neg h]; exact Nat.le_refl _
theorem wEnd_le (s : ByteArray) (p q : Nat) (bad : Bool) (h : q ≤ s.size) : wEnd s p q bad ≤ s.size := by
  induction q, bad using wEnd.induct s p with
  | case1 q bad h1 h2 ih => rw [wEnd, if_pos h1, if_pos h2]; exact ih (by omega)
  | case2 q bad h1 h2 => rw [wEnd, if_pos h1, if_neg h2]; exact h
  | case3 q bad h' => rw [wEnd, if_neg h']; exact h
theorem inw_no10 {c : UInt8} (h : inw c = true) : c ≠ 10 := by
  rintro rfl
  cases h
theorem wEnd_no10 (s : ByteArray) (p q : Nat) (bad : Bool) : NoD s 10 q (wEnd s p q bad) := by
  induction q, bad using wEnd.induct s p with
  | case1 q bad h1 h2 ih =>
    rw [wEnd, if_pos h1, if_pos h2]
    intro k k1 k2
    by_cases hk : k = q
    · subst hk
      exact inw_no10 (by simp only [Bool.and_eq_true] at h2; exact h2.1)
    · exact ih k (by omega) k2
  | case2 q bad h1 h2 => rw [wEnd, if_pos h1, if_neg h2]; intro k k1 k2; omega
  | case3 q bad h => rw [wEnd, if_neg h]; intro k k1 k2; omega

structure Tk where
  kind : UInt8
  text : List UInt8
  line : Nat
  pos : Nat
/-- The next token at place p; none: a string that is never closed. -/
def tokF (s : ByteArray) (p : Nat) : Option Tk :=
  if _h : p < s.size then
    if byt s p = 10 ∨ spc (byt s p) = true then tokF s (p + 1)
    else if byt s p = 35 then tokF s (min (nxt s 10 (p + 1) + 1) s.size)
    else if byt s p = 91 ∨ byt s p = 93 then some ⟨byt s p, [], cnt s p, p + 1⟩
    else if byt s p = 34 then (if nxt s 34 (p + 1) < s.size then some ⟨34, seg s (p + 1) (nxt s 34 (p + 1) - (p + 1)), cnt s p, nxt s 34 (p + 1) + 1⟩ else none)
    else some ⟨119, seg s p (wEnd s p p false - p), cnt s p, wEnd s p p false⟩
  else some ⟨0, [], cnt s p, p⟩
termination_by s.size - p
decreasing_by
  · omega
  · have := nxt_ge s 10 (p + 1); omega
end Go.Proofs.Qxb6614301aFmt
