import Derived.Test.Qxb6613649aDoorProg
import Derived.WalkKit
import Derived.WalkSpells
import Derived.WalkLawsBesides
import Derived.BigQuiet
import Derived.Deep.QuietTactic
import Derived.Deep.RegionWith
import Derived.Deep.RegionHeld3
import Derived.Deep.CutRange
import Derived.Deep.CutBlock
import Derived.Lib.UnsafeStr
namespace Go.Proofs.Qxb6613649aDoor
open Go.RowKit

theorem hide {p : Prop} (h : p) : Hid p := h
theorem unhide {p : Prop} (h : Hid p) : p := h

def letter (c : UInt8) : Bool := (97 ≤ c && c ≤ 122) || (65 ≤ c && c ≤ 90) || c == 95
def nch (c : UInt8) : Bool := letter c || (48 ≤ c && c ≤ 57) || c == 46

/-- The length of the name that L opens with. -/
def nameLen : List UInt8 → Nat
  | [] => 0
  | c :: t => if letter c then 1 + (t.takeWhile nch).length else 0
/-- Where the run of p from place i on ends. -/
def runEnd (p : UInt8 → Bool) (L : List UInt8) (i : Nat) : Nat := i + ((L.drop i).takeWhile p).length
theorem runEnd_step (p : UInt8 → Bool) (L : List UInt8) (i : Nat) (h : i < L.length) (hp : p L[i] = true) : runEnd p L (i + 1) = runEnd p L i := by
  unfold runEnd
  rw [List.drop_eq_getElem_cons h, List.takeWhile_cons_of_pos hp]
  simp only [List.length_cons]
  omega
theorem runEnd_stop (p : UInt8 → Bool) (L : List UInt8) (i : Nat) (h : i < L.length) (hp : p L[i] = false) : runEnd p L i = i := by
  unfold runEnd
  rw [List.drop_eq_getElem_cons h, List.takeWhile_cons_of_neg (by simp [hp])]
  simp
theorem runEnd_end (p : UInt8 → Bool) (L : List UInt8) (i : Nat) (h : L.length ≤ i) : runEnd p L i = i := by
  unfold runEnd
  rw [List.drop_eq_nil_of_le h]
  simp
theorem nameLen_first (L : List UInt8) (h : 0 < L.length) (hl : letter L[0] = true) : nameLen L = runEnd nch L 1 := by
  cases L with
  | nil => cases h
  | cons c t =>
    have hl' : letter c = true := hl
    show (if letter c = true then 1 + (t.takeWhile nch).length else 0) = _
    rw [if_pos hl']
    rfl
theorem nameLen_none (L : List UInt8) (h : 0 < L.length) (hl : letter L[0] = false) : nameLen L = 0 := by
  cases L with
  | nil => cases h
  | cons c t =>
    have hl' : letter c = false := hl
    show (if letter c = true then 1 + (t.takeWhile nch).length else 0) = _
    rw [if_neg (by simp [hl'])]

theorem ret_bool {a b : Bool} (h : a = b) : Ending.returned (.bool a) = .returned (.bool b) := by rw [h]
theorem ret_i64 {a b : Int} (h : a = b) : Ending.returned (.int .i64 a) = .returned (.int .i64 b) := by rw [h]

/-- The eight comparisons of nameLength, by name. -/
structure Cm (c : UInt8) (b1 b2 b3 b4 b5 b6 b7 b8 : Bool) : Prop where
  h1 : decide ((97 : Int) ≤ (c.toNat : Int)) = b1
  h2 : decide ((c.toNat : Int) ≤ 122) = b2
  h3 : decide ((65 : Int) ≤ (c.toNat : Int)) = b3
  h4 : decide ((c.toNat : Int) ≤ 90) = b4
  h5 : ((c.toNat : Int) == 95) = b5
  h6 : decide ((48 : Int) ≤ (c.toNat : Int)) = b6
  h7 : decide ((c.toNat : Int) ≤ 57) = b7
  h8 : ((c.toNat : Int) == 46) = b8
theorem letter_nat (c : UInt8) : letter c = ((decide (97 ≤ c.toNat) && decide (c.toNat ≤ 122)) || (decide (65 ≤ c.toNat) && decide (c.toNat ≤ 90)) || decide (c.toNat = 95)) := by
  unfold letter
  simp only [UInt8.le_iff_toNat_le]
  congr 1
  rw [Bool.eq_iff_iff]
  simp only [beq_iff_eq, decide_eq_true_eq]
  constructor
  · rintro rfl; rfl
  · intro h; exact UInt8.toNat_inj.1 h
theorem nch_nat (c : UInt8) : nch c = (letter c || (decide (48 ≤ c.toNat) && decide (c.toNat ≤ 57)) || decide (c.toNat = 46)) := by
  unfold nch
  simp only [UInt8.le_iff_toNat_le]
  congr 1
  rw [Bool.eq_iff_iff]
  simp only [beq_iff_eq, decide_eq_true_eq]
  constructor
  · rintro rfl; rfl
  · intro h; exact UInt8.toNat_inj.1 h
theorem cms (c : UInt8) : (Cm c false true false true false false true false ∧ letter c = false ∧ nch c = false) ∨
    (Cm c false true false true false false true true ∧ letter c = false ∧ nch c = true) ∨
    (Cm c false true false true false false true false ∧ letter c = false ∧ nch c = false) ∨
    (Cm c false true false true false true true false ∧ letter c = false ∧ nch c = true) ∨
    (Cm c false true false true false true false false ∧ letter c = false ∧ nch c = false) ∨
    (Cm c false true true true false true false false ∧ letter c = true ∧ nch c = true) ∨
    (Cm c false true true false false true false false ∧ letter c = false ∧ nch c = false) ∨
    (Cm c false true true false true true false false ∧ letter c = true ∧ nch c = true) ∨
    (Cm c false true true false false true false false ∧ letter c = false ∧ nch c = false) ∨
    (Cm c true true true false false true false false ∧ letter c = true ∧ nch c = true) ∨
    (Cm c true false true false false true false false ∧ letter c = false ∧ nch c = false) := by
  have e1 := letter_nat c
  have e2 := nch_nat c
  rcases (by omega : c.toNat ≤ 45 ∨ (46 ≤ c.toNat ∧ c.toNat ≤ 46) ∨ (47 ≤ c.toNat ∧ c.toNat ≤ 47) ∨ (48 ≤ c.toNat ∧ c.toNat ≤ 57) ∨ (58 ≤ c.toNat ∧ c.toNat ≤ 64) ∨ (65 ≤ c.toNat ∧ c.toNat ≤ 90) ∨ (91 ≤ c.toNat ∧ c.toNat ≤ 94) ∨ (95 ≤ c.toNat ∧ c.toNat ≤ 95) ∨ (96 ≤ c.toNat ∧ c.toNat ≤ 96) ∨ (97 ≤ c.toNat ∧ c.toNat ≤ 122) ∨ 123 ≤ c.toNat) with h | h | h | h | h | h | h | h | h | h | h
  · exact .inl ⟨⟨by simp; omega, by simp; omega, by simp; omega, by simp; omega, by simp; omega, by simp; omega, by simp; omega, by simp; omega⟩, by rw [e1]; simp; omega, by rw [e2, e1]; simp; omega⟩
  · exact .inr (.inl ⟨⟨by simp; omega, by simp; omega, by simp; omega, by simp; omega, by simp; omega, by simp; omega, by simp; omega, by simp; omega⟩, by rw [e1]; simp; omega, by rw [e2, e1]; simp; omega⟩)
  · exact .inr (.inr (.inl ⟨⟨by simp; omega, by simp; omega, by simp; omega, by simp; omega, by simp; omega, by simp; omega, by simp; omega, by simp; omega⟩, by rw [e1]; simp; omega, by rw [e2, e1]; simp; omega⟩))
  · exact .inr (.inr (.inr (.inl ⟨⟨by simp; omega, by simp; omega, by simp; omega, by simp; omega, by simp; omega, by simp; omega, by simp; omega, by simp; omega⟩, by rw [e1]; simp; omega, by rw [e2, e1]; simp; omega⟩)))
  · exact .inr (.inr (.inr (.inr (.inl ⟨⟨by simp; omega, by simp; omega, by simp; omega, by simp; omega, by simp; omega, by simp; omega, by simp; omega, by simp; omega⟩, by rw [e1]; simp; omega, by rw [e2, e1]; simp; omega⟩))))
  · exact .inr (.inr (.inr (.inr (.inr (.inl ⟨⟨by simp; omega, by simp; omega, by simp; omega, by simp; omega, by simp; omega, by simp; omega, by simp; omega, by simp; omega⟩, by rw [e1]; simp; omega, by rw [e2, e1]; simp; omega⟩)))))
  · exact .inr (.inr (.inr (.inr (.inr (.inr (.inl ⟨⟨by simp; omega, by simp; omega, by simp; omega, by simp; omega, by simp; omega, by simp; omega, by simp; omega, by simp; omega⟩, by rw [e1]; simp; omega, by rw [e2, e1]; simp; omega⟩))))))
  · exact .inr (.inr (.inr (.inr (.inr (.inr (.inr (.inl ⟨⟨by simp; omega, by simp; omega, by simp; omega, by simp; omega, by simp; omega, by simp; omega, by simp; omega, by simp; omega⟩, by rw [e1]; simp; omega, by rw [e2, e1]; simp; omega⟩)))))))
  · exact .inr (.inr (.inr (.inr (.inr (.inr (.inr (.inr (.inl ⟨⟨by simp; omega, by simp; omega, by simp; omega, by simp; omega, by simp; omega, by simp; omega, by simp; omega, by simp; omega⟩, by rw [e1]; simp; omega, by rw [e2, e1]; simp; omega⟩))))))))
  · exact .inr (.inr (.inr (.inr (.inr (.inr (.inr (.inr (.inr (.inl ⟨⟨by simp; omega, by simp; omega, by simp; omega, by simp; omega, by simp; omega, by simp; omega, by simp; omega, by simp; omega⟩, by rw [e1]; simp; omega, by rw [e2, e1]; simp; omega⟩)))))))))
  · exact .inr (.inr (.inr (.inr (.inr (.inr (.inr (.inr (.inr (.inr (⟨⟨by simp; omega, by simp; omega, by simp; omega, by simp; omega, by simp; omega, by simp; omega, by simp; omega, by simp; omega⟩, by rw [e1]; simp; omega, by rw [e2, e1]; simp; omega⟩))))))))))
end Go.Proofs.Qxb6613649aDoor
