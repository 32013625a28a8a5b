import Derived.Test.Qxb6613049aFmtW1
import Derived.Test.Qxb6613049aFmtShelf
import Derived.Lib.IndexLaws
namespace Go.Proofs.Qxb6613049aFmt
open Go.RowKit

theorem idx_has (l : List UInt8) (c : UInt8) : decide ((0 : Int) ≤ Lib.indexByte l c) = l.contains c := by
  have hge := Lib.indexByte_ge l c
  by_cases h : Lib.indexByte l c = -1
  · rw [h]
    have hn := Lib.indexByte_none h
    have : l.contains c = false := by
      cases hc : l.contains c with
      | false => rfl
      | true =>
        obtain ⟨k, hk, e⟩ := List.getElem_of_mem (by simpa using hc : c ∈ l)
        exact absurd (by rw [List.getElem?_eq_getElem hk, e]) (hn k)
    rw [this]; rfl
  · obtain ⟨o, ho⟩ : ∃ o : Nat, Lib.indexByte l c = o := ⟨(Lib.indexByte l c).toNat, by omega⟩
    have hs := (Lib.indexByte_some ho).1
    have : l.contains c = true := by simpa using List.mem_of_getElem? hs
    rw [this, ho]; simp
theorem back (c : UInt8) : (c.toNat : Int).toNat.toUInt8 = c := by simp

/-- The bytes by the three runs of letters and digits. -/
theorem spans (c : UInt8) : (c.toNat ≤ 47 ∧ alnum c = false) ∨ (48 ≤ c.toNat ∧ c.toNat ≤ 57 ∧ alnum c = true) ∨ (58 ≤ c.toNat ∧ c.toNat ≤ 64 ∧ alnum c = false) ∨ (65 ≤ c.toNat ∧ c.toNat ≤ 90 ∧ alnum c = true) ∨
    (91 ≤ c.toNat ∧ c.toNat ≤ 96 ∧ alnum c = false) ∨ (97 ≤ c.toNat ∧ c.toNat ≤ 122 ∧ alnum c = true) ∨ (123 ≤ c.toNat ∧ alnum c = false) := by
  have e : alnum c = ((decide (97 ≤ c.toNat) && decide (c.toNat ≤ 122)) || (decide (65 ≤ c.toNat) && decide (c.toNat ≤ 90)) || (decide (48 ≤ c.toNat) && decide (c.toNat ≤ 57))) := by
    unfold alnum; simp only [UInt8.le_iff_toNat_le]; rfl
  rw [e]
  rcases (by omega : c.toNat ≤ 47 ∨ (48 ≤ c.toNat ∧ c.toNat ≤ 57) ∨ (58 ≤ c.toNat ∧ c.toNat ≤ 64) ∨ (65 ≤ c.toNat ∧ c.toNat ≤ 90) ∨ (91 ≤ c.toNat ∧ c.toNat ≤ 96) ∨ (97 ≤ c.toNat ∧ c.toNat ≤ 122) ∨ 123 ≤ c.toNat) with h | h | h | h | h | h | h
  · exact .inl ⟨h, by simp; omega⟩
  · exact .inr (.inl ⟨h.1, h.2, by simp; omega⟩)
  · exact .inr (.inr (.inl ⟨h.1, h.2, by simp; omega⟩))
  · exact .inr (.inr (.inr (.inl ⟨h.1, h.2, by simp; omega⟩)))
  · exact .inr (.inr (.inr (.inr (.inl ⟨h.1, h.2, by simp; omega⟩))))
  · exact .inr (.inr (.inr (.inr (.inr (.inl ⟨h.1, h.2, by simp; omega⟩)))))
  · exact .inr (.inr (.inr (.inr (.inr (.inr ⟨h, by simp; omega⟩)))))

/-- The six comparisons, by name. -/
structure Cmp (c : UInt8) (b1 b2 b3 b4 b5 b6 : Bool) : Prop where
  h1 : decide ((97 : Int) ≤ (c.toNat : Int)) = b1
  h2 : decide ((c.toNat : Int) ≤ 122) = b2
  h3 : decide ((65 : Int) ≤ (c.toNat : Int)) = b3
  h4 : decide ((c.toNat : Int) ≤ 90) = b4
  h5 : decide ((48 : Int) ≤ (c.toNat : Int)) = b5
  h6 : decide ((c.toNat : Int) ≤ 57) = b6
theorem cmps (c : UInt8) : (alnum c = false ∧ (Cmp c false true false true false true ∨ Cmp c false true false true true false ∨ Cmp c false true true false true false ∨ Cmp c true false true false true false)) ∨
    (alnum c = true ∧ (Cmp c false true false true true true ∨ Cmp c false true true true true false ∨ Cmp c true true true false true false)) := by
  rcases spans c with h | h | h | h | h | h | h
  · exact .inl ⟨h.2, .inl ⟨by simp; omega, by simp; omega, by simp; omega, by simp; omega, by simp; omega, by simp; omega⟩⟩
  · exact .inr ⟨h.2.2, .inl ⟨by simp; omega, by simp; omega, by simp; omega, by simp; omega, by simp; omega, by simp; omega⟩⟩
  · exact .inl ⟨h.2.2, .inr (.inl ⟨by simp; omega, by simp; omega, by simp; omega, by simp; omega, by simp; omega, by simp; omega⟩)⟩
  · exact .inr ⟨h.2.2, .inr (.inl ⟨by simp; omega, by simp; omega, by simp; omega, by simp; omega, by simp; omega, by simp; omega⟩)⟩
  · exact .inl ⟨h.2.2, .inr (.inr (.inl ⟨by simp; omega, by simp; omega, by simp; omega, by simp; omega, by simp; omega, by simp; omega⟩))⟩
  · exact .inr ⟨h.2.2, .inr (.inr ⟨by simp; omega, by simp; omega, by simp; omega, by simp; omega, by simp; omega, by simp; omega⟩)⟩
  · exact .inl ⟨h.2, .inr (.inr (.inr ⟨by simp; omega, by simp; omega, by simp; omega, by simp; omega, by simp; omega, by simp; omega⟩))⟩

set_option maxHeartbeats 1000000 in
theorem isTokenChar_any (c : UInt8) (w : World) :
    Calls Tryf.prog 35 #[.int .u8 (c.toNat : Int)] w fun e w' => e = .returned (.bool (tch c)) ∧ w = w' := by
  rcases cmps c with ⟨ha, h⟩ | ⟨ha, h⟩
  · have ht : tch c = [33, 35, 36, 37, 38, 39, 42, 43, 45, 46, 94, 95, 96, 124, 126].contains c := by unfold tch; rw [ha, Bool.false_or]
    rw [ht, ← idx_has]
    rcases h with ⟨h1, h2, h3, h4, h5, h6⟩ | ⟨h1, h2, h3, h4, h5, h6⟩ | ⟨h1, h2, h3, h4, h5, h6⟩ | ⟨h1, h2, h3, h4, h5, h6⟩
    all_goals
      go_enter Tryf.func35, Tryf.ntmps35
      go_wp2_with fail
      refine (Tryf.strings_IndexByte _ _ w).mono ?_
      rw [back]
      rintro e w' ⟨rfl, rfl⟩
      go_wp2
      go_ret
      exact ⟨rfl, rfl⟩
  · have ht : tch c = true := by unfold tch; rw [ha, Bool.true_or]
    rw [ht]
    rcases h with ⟨h1, h2, h3, h4, h5, h6⟩ | ⟨h1, h2, h3, h4, h5, h6⟩ | ⟨h1, h2, h3, h4, h5, h6⟩
    all_goals
      go_enter Tryf.func35, Tryf.ntmps35
      go_wp2
      go_ret
      exact ⟨rfl, rfl⟩
set_option maxHeartbeats 1000000 in
theorem isToken68Char_any (c : UInt8) (w : World) :
    Calls Tryf.prog 39 #[.int .u8 (c.toNat : Int)] w fun e w' => e = .returned (.bool (t68 c)) ∧ w = w' := by
  rcases cmps c with ⟨ha, h⟩ | ⟨ha, h⟩
  · have ht : t68 c = [45, 46, 95, 126, 43, 47].contains c := by unfold t68; rw [ha, Bool.false_or]
    rw [ht, ← idx_has]
    rcases h with ⟨h1, h2, h3, h4, h5, h6⟩ | ⟨h1, h2, h3, h4, h5, h6⟩ | ⟨h1, h2, h3, h4, h5, h6⟩ | ⟨h1, h2, h3, h4, h5, h6⟩
    all_goals
      go_enter Tryf.func39, Tryf.ntmps39
      go_wp2_with fail
      refine (Tryf.strings_IndexByte _ _ w).mono ?_
      rw [back]
      rintro e w' ⟨rfl, rfl⟩
      go_wp2
      go_ret
      exact ⟨rfl, rfl⟩
  · have ht : t68 c = true := by unfold t68; rw [ha, Bool.true_or]
    rw [ht]
    rcases h with ⟨h1, h2, h3, h4, h5, h6⟩ | ⟨h1, h2, h3, h4, h5, h6⟩ | ⟨h1, h2, h3, h4, h5, h6⟩
    all_goals
      go_enter Tryf.func39, Tryf.ntmps39
      go_wp2
      go_ret
      exact ⟨rfl, rfl⟩

theorem isQuotedByte_any (c : UInt8) (w : World) :
    Calls Tryf.prog 46 #[.int .u8 (c.toNat : Int)] w fun e w' => e = .returned (.bool (qb c)) ∧ w = w' := by
  have h1 : ((c.toNat : Int) == 9) = (c == 9) := u8_beq c 9
  have h2 : ((c.toNat : Int) == 127) = (c == 127) := u8_beq c 127
  have h3 : decide ((32 : Int) ≤ (c.toNat : Int)) = decide (32 ≤ c) := by
    rw [decide_eq_decide, UInt8.le_iff_toNat_le]
    show _ ↔ 32 ≤ c.toNat
    omega
  have hq : qb c = ((c == 9) || (decide (32 ≤ c) && !(c == 127))) := rfl
  rw [hq]
  clear hq
  cases hx : c == 9
  · rw [hx] at h1
    cases hy : decide (32 ≤ c)
    · rw [hy] at h3
      go_enter Tryf.func46, Tryf.ntmps46
      go_wp2
      go_ret
      exact ⟨by simp, rfl⟩
    · rw [hy] at h3
      go_enter Tryf.func46, Tryf.ntmps46
      go_wp2
      go_ret
      exact ⟨by simp [bne, h2], rfl⟩
  · rw [hx] at h1
    go_enter Tryf.func46, Tryf.ntmps46
    go_wp2
    go_ret
    exact ⟨by simp, rfl⟩

theorem zzIsAlnum_any (c : UInt8) (w : World) :
    Calls Tryf.prog 31 #[.int .u8 (c.toNat : Int)] w fun e w' => e = .returned (.bool (alnum c)) ∧ w = w' := by
  rcases cmps c with ⟨ha, h⟩ | ⟨ha, h⟩
  · rw [ha]
    rcases h with ⟨h1, h2, h3, h4, h5, h6⟩ | ⟨h1, h2, h3, h4, h5, h6⟩ | ⟨h1, h2, h3, h4, h5, h6⟩ | ⟨h1, h2, h3, h4, h5, h6⟩
    all_goals
      go_enter Tryf.func31, Tryf.ntmps31
      go_wp2
      go_ret
      exact ⟨rfl, rfl⟩
  · rw [ha]
    rcases h with ⟨h1, h2, h3, h4, h5, h6⟩ | ⟨h1, h2, h3, h4, h5, h6⟩ | ⟨h1, h2, h3, h4, h5, h6⟩
    all_goals
      go_enter Tryf.func31, Tryf.ntmps31
      go_wp2
      go_ret
      exact ⟨rfl, rfl⟩

end Go.Proofs.Qxb6613049aFmt
