/-
  bytes.Cut at a line feed, bytes.TrimSuffix at a carriage return, in this seat's words; the plain laws on unfolding.
-/
import Derived.Test.Qxb6612277aFmtW7
namespace Go.Proofs.Qxb6612277aFmt
open Go.RowKit

/-- Without the CR at its end. -/
def trimCR (l : List UInt8) : List UInt8 := if l.getLast? = some 13 then l.dropLast else l

theorem trimCR_take (l : List UInt8) : ∃ k, k ≤ l.length ∧ trimCR l = l.take k := by
  unfold trimCR
  split
  · exact ⟨l.length - 1, by omega, List.dropLast_eq_take ..⟩
  · exact ⟨l.length, Nat.le_refl _, by simp⟩

theorem unf_cons (c : UInt8) (r : List UInt8) : unf (c :: r) = if c = 10 then unf r else if c = 13 ∧ r.head? = some 10 then unf r else c :: unf r := by rw [unf]
theorem unf_noLF (l : List UInt8) (h : ∀ x ∈ l, x ≠ 10) : unf l = l := by
  induction l with
  | nil => rfl
  | cons c r ih =>
    have hc : c ≠ 10 := h c (by simp)
    have hr : r.head? ≠ some 10 := by
      intro e
      cases r with
      | nil => cases e
      | cons d r' =>
        simp at e
        exact h d (by simp) e
    rw [unf_cons, if_neg hc, if_neg (fun e => hr e.2), ih (fun x hx => h x (by simp [hx]))]

theorem unf_atLF (pre r : List UInt8) (h : ∀ x ∈ pre, x ≠ 10) : unf (pre ++ 10 :: r) = trimCR pre ++ unf r := by
  induction pre with
  | nil => simp [unf, trimCR]
  | cons c p ih =>
    have hc : c ≠ 10 := h c (by simp)
    have ih' := ih (fun x hx => h x (by simp [hx]))
    show unf (c :: (p ++ 10 :: r)) = _
    rw [unf_cons, if_neg hc]
    cases p with
    | nil =>
      simp only [List.nil_append] at ih' ⊢
      by_cases h13 : c = 13
      · rw [if_pos ⟨h13, rfl⟩, ih', h13]
        simp [trimCR]
      · rw [if_neg (fun e => h13 e.1), ih']
        simp [trimCR, h13]
    | cons d p' =>
      have hd : d ≠ 10 := h d (by simp)
      rw [if_neg (fun e => hd (by simpa using e.2)), ih']
      unfold trimCR
      have e1 : (c :: d :: p').getLast? = (d :: p').getLast? := by simp [List.getLast?_cons_cons]
      rw [e1]
      split <;> simp

theorem no_LF_of (l : List UInt8) (h : Lib.indexByte l 10 = -1) : ∀ x ∈ l, x ≠ 10 := by
  intro x hx e
  subst e
  obtain ⟨i, hi⟩ := List.getElem?_of_mem hx
  exact Lib.indexByte_none h i hi

theorem unf_none (l : List UInt8) (h : Lib.indexByte l 10 = -1) : unf l = l := unf_noLF l (no_LF_of l h)
theorem unf_some (l : List UInt8) (j : Nat) (h : Lib.indexByte l 10 = j) : j < l.length ∧ unf l = trimCR (l.take j) ++ unf (l.drop (j + 1)) := by
  obtain ⟨h1, h2⟩ := Lib.indexByte_some h
  obtain ⟨hj, hc⟩ := List.getElem?_eq_some_iff.1 h1
  refine ⟨hj, ?_⟩
  have e : l = l.take j ++ 10 :: l.drop (j + 1) := by
    rw [← hc, ← List.drop_eq_getElem_cons hj, List.take_append_drop]
  have hpre : ∀ x ∈ l.take j, x ≠ 10 := by
    intro x hx ex
    subst ex
    obtain ⟨i, hi⟩ := List.getElem?_of_mem hx
    rw [List.getElem?_take] at hi
    by_cases hij : i < j
    · rw [if_pos hij] at hi; exact h2 i hij hi
    · rw [if_neg hij] at hi; cases hi
  conv => lhs; rw [e]
  exact unf_atLF _ _ hpre

theorem cut_none (b o n c b2 : Nat) (l : List UInt8) (W : World) (hl : l.length = n) (hn : n ≤ 1048576) (hcap : n ≤ c) (hc : BA W (some ⟨b, o, none⟩) l) (hi : Lib.indexByte l 10 = -1) (h2 : W.cell? ⟨b2, 0, none⟩ = some (.int .u8 10)) :
    Calls Tryf.prog 59 #[.slice (some ⟨b, o, none⟩) n c, .slice (some ⟨b2, 0, none⟩) 1 1] W fun e w' => e = .returned (.tuple #[.slice (some ⟨b, o, none⟩) n c, .slice none 0 0, .bool false]) ∧ ∃ q, w' = W.drewN q := by
  subst hl
  have hx := Tryf.bytes_Index_one_at ⟨b, o, none⟩ l.length c b2 0 1 (nums l) 10 W (nums_length l) hc.adds h2
  rw [bytesOf_nums] at hx
  have hx' : Calls Tryf.prog 68 #[.slice (some ⟨b, o, none⟩) l.length c, .slice (some ⟨b2, 0, none⟩) 1 1] W fun e w' => e = .returned (.int .i64 (-1)) ∧ ∃ q, w' = W.drewN q :=
    hx.mono fun e w' ⟨he, hw⟩ => ⟨by rw [he]; exact congrArg (fun z => Ending.returned (.int .i64 z)) hi, 0, hw⟩
  exact Tryf.bytes_Cut_of (some ⟨b, o, none⟩) (some ⟨b2, 0, none⟩) l.length c 1 1 (-1) W hcap (by omega) (by omega) (by omega) hx'

theorem cut_some (b o n c b2 j : Nat) (l : List UInt8) (W : World) (hl : l.length = n) (hn : n ≤ 1048576) (hcap : n ≤ c) (hc : BA W (some ⟨b, o, none⟩) l) (hi : Lib.indexByte l 10 = j) (h2 : W.cell? ⟨b2, 0, none⟩ = some (.int .u8 10)) :
    Calls Tryf.prog 59 #[.slice (some ⟨b, o, none⟩) n c, .slice (some ⟨b2, 0, none⟩) 1 1] W fun e w' =>
      (∃ q', (j + 1 < n → q' = some ⟨b, o + (j + 1), none⟩) ∧ e = .returned (.tuple #[.slice (some ⟨b, o, none⟩) j c, .slice q' (n - (j + 1)) (c - (j + 1)), .bool true])) ∧ ∃ q, w' = W.drewN q := by
  subst hl
  have hj := (unf_some l j hi).1
  have hx := Tryf.bytes_Index_one_at ⟨b, o, none⟩ l.length c b2 0 1 (nums l) 10 W (nums_length l) hc.adds h2
  rw [bytesOf_nums] at hx
  have hx' : Calls Tryf.prog 68 #[.slice (some ⟨b, o, none⟩) l.length c, .slice (some ⟨b2, 0, none⟩) 1 1] W fun e w' => e = .returned (.int .i64 (j : Int)) ∧ ∃ q, w' = W.drewN q :=
    hx.mono fun e w' ⟨he, hw⟩ => ⟨by rw [he]; exact congrArg (fun z => Ending.returned (.int .i64 z)) hi, 0, hw⟩
  refine (Tryf.bytes_Cut_of (some ⟨b, o, none⟩) (some ⟨b2, 0, none⟩) l.length c 1 1 j W hcap (by omega) (by omega) (by omega) hx').mono fun e w' ⟨he, hw⟩ => ⟨⟨if c = j + 1 then some ⟨b, o, none⟩ else some ⟨b, o + (j + 1), none⟩, fun h => by rw [if_neg (by omega)], ?_⟩, hw⟩
  rw [he]
  unfold Lib.cutV Lib.fromV
  simp [Go.WideShapes.add_plain]

theorem trim_cr (b o n c b2 : Nat) (l : List UInt8) (W : World) (hl : l.length = n) (hn : n ≤ 1048576) (hcap : n ≤ c) (hc : BA W (some ⟨b, o, none⟩) l) (h2 : W.cell? ⟨b2, 0, none⟩ = some (.int .u8 13)) :
    Calls Tryf.prog 44 #[.slice (some ⟨b, o, none⟩) n c, .slice (some ⟨b2, 0, none⟩) 1 1] W fun e w' => e = .returned (.slice (some ⟨b, o, none⟩) (trimCR l).length c) ∧ w' = W := by
  subst hl
  have hx := Tryf.bytes_TrimSuffix_all (some ⟨b, o, none⟩) (some ⟨b2, 0, none⟩) l.length c 1 1 (nums l) [13] W (nums_length l) rfl hcap (by omega) hc.bytesIn (fun _ => ⟨b2, 0, rfl, fun i hi => by
    obtain rfl : i = 0 := by omega
    simpa using h2⟩)
  refine hx.mono fun e w' ⟨he, hw⟩ => ⟨?_, hw⟩
  rw [he]
  unfold Lib.trimSuffixV Lib.bytesTrimSuffix
  simp only [bytesOf_nums]
  have hb : Lib.bytesOf [13] = [13] := rfl
  rw [hb]
  have hsuf : Lib.hasSuffix l [13] = decide (l.getLast? = some 13) := by
    unfold Lib.hasSuffix
    rw [Bool.eq_iff_iff, List.isSuffixOf_iff_suffix, decide_eq_true_iff]
    constructor
    · rintro ⟨t, rfl⟩; simp
    · intro h
      obtain ⟨t, ht⟩ := List.getLast?_eq_some_iff.1 h
      exact ⟨t, ht.symm⟩
  rw [hsuf]
  unfold trimCR Lib.sliceTo
  by_cases h : l.getLast? = some 13
  · simp [h]
  · simp [h]

end Go.Proofs.Qxb6612277aFmt
