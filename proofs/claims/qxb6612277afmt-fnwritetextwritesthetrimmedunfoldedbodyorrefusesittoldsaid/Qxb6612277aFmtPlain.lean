/-
  Plain functions and laws: no Go here.
-/
import Derived.Test.Qxb6612277aFmtKit
namespace Go.Proofs.Qxb6612277aFmt

/-- Every LF taken out, and a CR right before an LF. -/
def unf : List UInt8 → List UInt8
  | [] => []
  | c :: r => if c = 10 then unf r else if c = 13 ∧ r.head? = some 10 then unf r else c :: unf r

def trimL (l : List UInt8) : List UInt8 := l.dropWhile wsp
def trimR (l : List UInt8) : List UInt8 := (l.reverse.dropWhile wsp).reverse

theorem unf_10 (l : List UInt8) (k : Nat) (h : k < l.length) (hc : l[k] = 10) : unf (l.drop k) = unf (l.drop (k + 1)) := by
  rw [List.drop_eq_getElem_cons h]; simp [unf, hc]
theorem unf_13 (l : List UInt8) (k : Nat) (h : k < l.length) (hc : l[k] = 13) (h2 : k + 1 < l.length) (hd : l[k + 1] = 10) : unf (l.drop k) = unf (l.drop (k + 1)) := by
  rw [List.drop_eq_getElem_cons h]
  have : (l.drop (k + 1)).head? = some 10 := by rw [List.head?_drop, List.getElem?_eq_getElem h2, hd]
  simp [unf, hc, this]
theorem unf_else (l : List UInt8) (k : Nat) (h : k < l.length) (h10 : l[k] ≠ 10) (h13 : ¬ (l[k] = 13 ∧ l[k + 1]? = some 10)) : unf (l.drop k) = l[k] :: unf (l.drop (k + 1)) := by
  rw [List.drop_eq_getElem_cons h]
  have : ¬ (l[k] = 13 ∧ (l.drop (k + 1)).head? = some 10) := by rw [List.head?_drop]; exact h13
  rw [unf, if_neg h10, if_neg this]

theorem unf_len (l : List UInt8) : (unf l).length ≤ l.length := by
  induction l with
  | nil => simp [unf]
  | cons c r ih => unfold unf; split <;> (try split) <;> simp <;> omega

theorem trimL_step (l : List UInt8) (k : Nat) (h : k < l.length) (hw : wsp l[k] = true) : trimL (l.drop (k + 1)) = trimL (l.drop k) := by
  unfold trimL
  rw [List.drop_eq_getElem_cons h, List.dropWhile_cons_of_pos hw]
theorem trimL_stop (l : List UInt8) (k : Nat) (h : k < l.length) (hw : wsp l[k] = false) : trimL (l.drop k) = l.drop k := by
  unfold trimL
  rw [List.drop_eq_getElem_cons h, List.dropWhile_cons_of_neg (by simp [hw])]
theorem trimL_end (l : List UInt8) (k : Nat) (h : l.length ≤ k) : trimL (l.drop k) = l.drop k := by
  unfold trimL
  rw [List.drop_eq_nil_of_le h]; rfl

theorem trimR_snoc_yes (l : List UInt8) (c : UInt8) (h : wsp c = true) : trimR (l ++ [c]) = trimR l := by
  unfold trimR; rw [List.reverse_append]; simp [h]
theorem trimR_snoc_no (l : List UInt8) (c : UInt8) (h : wsp c = false) : trimR (l ++ [c]) = l ++ [c] := by
  unfold trimR; rw [List.reverse_append]; simp [h]
theorem take_drop_snoc (l : List UInt8) (lo j : Nat) (h : lo ≤ j) (hj : j < l.length) : (l.take (j + 1)).drop lo = (l.take j).drop lo ++ [l[j]] := by
  rw [List.take_succ_eq_append_getElem hj, List.drop_append_of_le_length (by simp; omega)]
theorem trimR_step (l : List UInt8) (lo j : Nat) (h : lo ≤ j) (hj : j < l.length) (hw : wsp l[j] = true) : trimR ((l.take (j + 1)).drop lo) = trimR ((l.take j).drop lo) := by
  rw [take_drop_snoc l lo j h hj, trimR_snoc_yes _ _ hw]
theorem trimR_stop (l : List UInt8) (lo j : Nat) (h : lo ≤ j) (hj : j < l.length) (hw : wsp l[j] = false) : trimR ((l.take (j + 1)).drop lo) = (l.take (j + 1)).drop lo := by
  rw [take_drop_snoc l lo j h hj, trimR_snoc_no _ _ hw]

theorem dw_len (p : UInt8 → Bool) (l : List UInt8) : (l.dropWhile p).length ≤ l.length := by
  induction l with
  | nil => simp
  | cons c r ih => rw [List.dropWhile_cons]; split <;> simp <;> omega
theorem dw_nil (p : UInt8 → Bool) (l : List UInt8) : l.dropWhile p = [] ↔ ∀ x ∈ l, p x = true := by
  induction l with
  | nil => simp
  | cons c r ih =>
    rw [List.dropWhile_cons]
    split
    · rename_i h; rw [ih]; simp [h]
    · rename_i h; simp [h]
theorem trimR_len (l : List UInt8) : (trimR l).length ≤ l.length := by
  unfold trimR
  rw [List.length_reverse]
  refine Nat.le_trans (dw_len _ _) ?_
  simp
theorem trimL_len (l : List UInt8) : (trimL l).length ≤ l.length := dw_len _ _

/-- Trimming at both ends: the order does not matter. -/
theorem trim_comm (l : List UInt8) : trimL (trimR l) = trimR (trimL l) := by
  induction l with
  | nil => rfl
  | cons c r ih =>
    by_cases hc : wsp c = true
    · have h1 : trimL (c :: r) = trimL r := by unfold trimL; rw [List.dropWhile_cons_of_pos hc]
      rw [h1, ← ih]
      by_cases hr : r.all wsp = true
      · have e1 : trimR (c :: r) = [] := by
          unfold trimR
          rw [(dw_nil _ _).2 ?_]; rfl
          intro x hx
          simp at hx
          rcases hx with hx | rfl
          · exact List.all_eq_true.1 hr x hx
          · exact hc
        have e2 : trimR r = [] := by
          unfold trimR
          rw [(dw_nil _ _).2 ?_]; rfl
          intro x hx
          exact List.all_eq_true.1 hr x (by simpa using hx)
        rw [e1, e2]
      · have e1 : trimR (c :: r) = c :: trimR r := by
          unfold trimR
          rw [List.reverse_cons, List.dropWhile_append]
          have : (List.dropWhile wsp r.reverse).isEmpty = false := by
            rw [List.isEmpty_eq_false_iff]
            intro hn
            apply hr
            rw [List.all_eq_true]
            intro x hx
            exact (dw_nil _ _).1 hn x (by simpa using hx)
          rw [this]; simp
        rw [e1]
        unfold trimL
        rw [List.dropWhile_cons_of_pos hc]
    · have hc' : wsp c = false := by simpa using hc
      have h1 : trimL (c :: r) = c :: r := by unfold trimL; rw [List.dropWhile_cons_of_neg (by simp [hc'])]
      rw [h1]
      have h2 : ∃ r', trimR (c :: r) = c :: r' := by
        unfold trimR
        rw [List.reverse_cons, List.dropWhile_append]
        split
        · refine ⟨[], ?_⟩
          rw [List.dropWhile_cons_of_neg (by simp [hc'])]
          rfl
        · exact ⟨_, by rw [List.reverse_append]; rfl⟩
      obtain ⟨r', e⟩ := h2
      rw [e]
      unfold trimL
      rw [List.dropWhile_cons_of_neg (by simp [hc'])]

end Go.Proofs.Qxb6612277aFmt
