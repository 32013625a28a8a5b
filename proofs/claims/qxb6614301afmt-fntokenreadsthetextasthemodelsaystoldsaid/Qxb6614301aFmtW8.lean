import Derived.Test.Qxb6614301aFmtW7
namespace Go.Proofs.Qxb6614301aFmt
open Go.RowKit

theorem u8_beq (c d : UInt8) : ((c.toNat : Int) == (d.toNat : Int)) = (c == d) := by
  rw [Bool.eq_iff_iff]
  simp only [beq_iff_eq]
  constructor
  · intro h; exact UInt8.toNat_inj.1 (by omega)
  · rintro rfl; rfl
def spc (c : UInt8) : Bool := c == 32 || c == 9 || c == 13 || c == 11 || c == 12
theorem ret_bool {a b : Bool} (h : a = b) : Ending.returned (.bool a) = .returned (.bool b) := by rw [h]

theorem isSpace_any (c : UInt8) (w : World) : Calls Tryf.prog 22 #[.int .u8 (c.toNat : Int)] w fun e w' => e = .returned (.bool (spc c)) ∧ w' = w := by
  have b1 : ((c.toNat : Int) == 32) = (c == 32) := u8_beq c 32
  have b2 : ((c.toNat : Int) == 9) = (c == 9) := u8_beq c 9
  have b3 : ((c.toNat : Int) == 13) = (c == 13) := u8_beq c 13
  have b4 : ((c.toNat : Int) == 11) = (c == 11) := u8_beq c 11
  have b5 : ((c.toNat : Int) == 12) = (c == 12) := u8_beq c 12
  unfold spc
  cases h1 : c == 32 <;> rw [h1] at b1
  · cases h2 : c == 9 <;> rw [h2] at b2
    · cases h3 : c == 13 <;> rw [h3] at b3
      · cases h4 : c == 11 <;> rw [h4] at b4
        · cases h5 : c == 12 <;> rw [h5] at b5 <;> clear h1 h2 h3 h4 h5
          · go_enter Tryf.func22, Tryf.ntmps22
            go_wp2_with fail
            go_ret
            exact ⟨rfl, rfl⟩
          · go_enter Tryf.func22, Tryf.ntmps22
            go_wp2_with fail
            go_ret
            exact ⟨rfl, rfl⟩
        · clear h1 h2 h3 h4 b5
          go_enter Tryf.func22, Tryf.ntmps22
          go_wp2_with fail
          go_ret
          exact ⟨rfl, rfl⟩
      · clear h1 h2 h3 b4 b5
        go_enter Tryf.func22, Tryf.ntmps22
        go_wp2_with fail
        go_ret
        exact ⟨rfl, rfl⟩
    · clear h1 h2 b3 b4 b5
      go_enter Tryf.func22, Tryf.ntmps22
      go_wp2_with fail
      go_ret
      exact ⟨rfl, rfl⟩
  · clear h1 b2 b3 b4 b5
    go_enter Tryf.func22, Tryf.ntmps22
    go_wp2_with fail
    go_ret
    exact ⟨rfl, rfl⟩

/-- A byte of a key or a number. -/
def keyc (c : UInt8) : Bool := (decide ((97 : Int) ≤ bits .or .u8 (c.toNat : Int) 32) && decide (bits .or .u8 (c.toNat : Int) 32 ≤ 122)) || (decide ((48 : Int) ≤ (c.toNat : Int)) && decide ((c.toNat : Int) ≤ 57)) || ((c.toNat : Int) == 95) || ((c.toNat : Int) == 43) || ((c.toNat : Int) == 45) || ((c.toNat : Int) == 46)

set_option maxHeartbeats 1000000 in
theorem inKey_any (c : UInt8) (w : World) : Calls Tryf.prog 29 #[.int .u8 (c.toNat : Int)] w fun e w' => e = .returned (.bool (keyc c)) ∧ w' = w := by
  unfold keyc
  go_enter Tryf.func29, Tryf.ntmps29
  go_wp2_with fail
  all_goals
    go_ret
    refine ⟨ret_bool ?_, rfl⟩
    generalize bits BinOp.or IntKind.u8 (c.toNat : Int) 32 = l at *
    first
      | rfl
      | (rw [Bool.eq_iff_iff]; simp; done)
      | (rw [Bool.eq_iff_iff]; simp; omega)
end Go.Proofs.Qxb6614301aFmt
