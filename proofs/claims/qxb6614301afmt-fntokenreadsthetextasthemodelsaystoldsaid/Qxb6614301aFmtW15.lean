import Derived.Test.Qxb6614301aFmtW11
namespace Go.Proofs.Qxb6614301aFmt
open Go.RowKit

theorem blank_any (c : UInt8) (w : World) : Calls Tryf.prog 11 #[.int .u8 (c.toNat : Int)] w fun e w' => e = .returned (.bool (spc c)) ∧ w' = w := by
  have b1 : ((c.toNat : Int) == 32) = (c == 32) := u8_beq c 32
  have b2 : ((c.toNat : Int) == 9) = (c == 9) := u8_beq c 9
  have b3 : ((c.toNat : Int) == 13) = (c == 13) := u8_beq c 13
  have b4 : ((c.toNat : Int) == 11) = (c == 11) := u8_beq c 11
  have b5 : ((c.toNat : Int) == 12) = (c == 12) := u8_beq c 12
  unfold spc
  cases h1 : c == 32 <;> rw [h1] at b1
  · cases h2 : c == 9 <;> rw [h2] at b2
    · cases h3 : c == 13 <;> rw [h3] at b3
      · cases h4 : c == 11 <;> rw [h4] at b4
        · cases h5 : c == 12 <;> rw [h5] at b5 <;> clear h1 h2 h3 h4 h5
          · go_enter Tryf.func11, Tryf.ntmps11
            go_wp2_with fail
            go_ret
            exact ⟨rfl, rfl⟩
          · go_enter Tryf.func11, Tryf.ntmps11
            go_wp2_with fail
            go_ret
            exact ⟨rfl, rfl⟩
        · clear h1 h2 h3 h4 b5
          go_enter Tryf.func11, Tryf.ntmps11
          go_wp2_with fail
          go_ret
          exact ⟨rfl, rfl⟩
      · clear h1 h2 h3 b4 b5
        go_enter Tryf.func11, Tryf.ntmps11
        go_wp2_with fail
        go_ret
        exact ⟨rfl, rfl⟩
    · clear h1 h2 b3 b4 b5
      go_enter Tryf.func11, Tryf.ntmps11
      go_wp2_with fail
      go_ret
      exact ⟨rfl, rfl⟩
  · clear h1 b2 b3 b4 b5
    go_enter Tryf.func11, Tryf.ntmps11
    go_wp2_with fail
    go_ret
    exact ⟨rfl, rfl⟩


/-- A byte of a key or a number, as the model says it. -/
def kcm (c : UInt8) : Bool := (decide ((97 : Int) ≤ (c.toNat : Int)) && decide ((c.toNat : Int) ≤ 122)) || (decide ((65 : Int) ≤ (c.toNat : Int)) && decide ((c.toNat : Int) ≤ 90)) || (decide ((48 : Int) ≤ (c.toNat : Int)) && decide ((c.toNat : Int) ≤ 57)) || ((c.toNat : Int) == 95) || ((c.toNat : Int) == 43) || ((c.toNat : Int) == 45) || ((c.toNat : Int) == 46)
theorem kcm_all : (List.range 256).all (fun n => keyc n.toUInt8 == kcm n.toUInt8) = true := by decide +kernel
theorem kcm_eq (c : UInt8) : kcm c = keyc c := by
  have h := List.all_eq_true.1 kcm_all c.toNat (List.mem_range.2 c.toNat_lt)
  have e : c.toNat.toUInt8 = c := by simp
  rw [e] at h
  exact (beq_iff_eq.1 h).symm
set_option maxHeartbeats 4000000 in
theorem keyByte_any (c : UInt8) (w : World) : Calls Tryf.prog 18 #[.int .u8 (c.toNat : Int)] w fun e w' => e = .returned (.bool (keyc c)) ∧ w' = w := by
  rw [← kcm_eq]
  unfold kcm
  go_enter Tryf.func18, Tryf.ntmps18
  go_wp2_with fail
  all_goals
    go_ret
    refine ⟨ret_bool ?_, rfl⟩
    first
      | rfl
      | (rw [Bool.eq_iff_iff]; simp; done)
      | (rw [Bool.eq_iff_iff]; simp; omega)

set_option maxHeartbeats 4000000 in
theorem inWord_any (c : UInt8) (w : World) : Calls Tryf.prog 13 #[.int .u8 (c.toNat : Int)] w fun e w' => e = .returned (.bool (inw c)) ∧ w' = w := by
  have b1 : ((c.toNat : Int) != 10) = (c != 10) := by rw [bne, bne, ← u8_beq c 10]; rfl
  have b2 : ((c.toNat : Int) != 91) = (c != 91) := by rw [bne, bne, ← u8_beq c 91]; rfl
  have b3 : ((c.toNat : Int) != 93) = (c != 93) := by rw [bne, bne, ← u8_beq c 93]; rfl
  have b4 : ((c.toNat : Int) != 34) = (c != 34) := by rw [bne, bne, ← u8_beq c 34]; rfl
  have HB := hide (blank_any c w)
  have HI : Hid (inw c = (!(spc c) && c != 10 && c != 91 && c != 93 && c != 34)) := hide rfl
  cases hs : spc c <;> rw [hs] at HB HI
  · cases h1 : c != 10 <;> rw [h1] at b1 HI
    · clear h1 b2 b3 b4 hs
      go_enter Tryf.func13, Tryf.ntmps13
      go_wp2_with fail
      refine (unhide HB).mono ?_
      rintro e w' ⟨rfl, rfl⟩
      go_wp2_with fail
      go_ret
      exact ⟨ret_bool (unhide HI).symm, rfl⟩
    · cases h2 : c != 91 <;> rw [h2] at b2 HI
      · clear h1 h2 b3 b4 hs
        go_enter Tryf.func13, Tryf.ntmps13
        go_wp2_with fail
        refine (unhide HB).mono ?_
        rintro e w' ⟨rfl, rfl⟩
        go_wp2_with fail
        go_ret
        exact ⟨ret_bool (unhide HI).symm, rfl⟩
      · cases h3 : c != 93 <;> rw [h3] at b3 HI
        · clear h1 h2 h3 b4 hs
          go_enter Tryf.func13, Tryf.ntmps13
          go_wp2_with fail
          refine (unhide HB).mono ?_
          rintro e w' ⟨rfl, rfl⟩
          go_wp2_with fail
          go_ret
          exact ⟨ret_bool (unhide HI).symm, rfl⟩
        · cases h4 : c != 34 <;> rw [h4] at b4 HI
          all_goals
            clear h1 h2 h3 h4 hs
            go_enter Tryf.func13, Tryf.ntmps13
            go_wp2_with fail
            refine (unhide HB).mono ?_
            rintro e w' ⟨rfl, rfl⟩
            go_wp2_with fail
            go_ret
            exact ⟨ret_bool (unhide HI).symm, rfl⟩
  · clear b1 b2 b3 b4 hs
    go_enter Tryf.func13, Tryf.ntmps13
    go_wp2_with fail
    refine (unhide HB).mono ?_
    rintro e w' ⟨rfl, rfl⟩
    go_wp2_with fail
    go_ret
    exact ⟨ret_bool (unhide HI).symm, rfl⟩

theorem byt_at (s : ByteArray) (k : Nat) (h : k < s.size) : byt s k = s[k] := by
  unfold byt
  have hl : k < s.data.toList.length := by simpa using h
  rw [List.getD, List.getElem?_eq_getElem hl, Array.getElem_toList]
  rfl
set_option maxRecDepth 100000 in
theorem indexFrom_any (s : ByteArray) (a : Nat) (d : UInt8) (w : World) (hs : s.size ≤ 2097152) (ha : a ≤ s.size) :
    Calls Tryf.prog 12 #[.string s, .int .i64 (a : Nat), .int .u8 (d.toNat : Int)] w fun e w' => w' = w ∧ ((∃ j : Nat, a ≤ j ∧ j < s.size ∧ byt s j = d ∧ NoD s d a j ∧ e = .returned (.int .i64 (j : Nat))) ∨ (NoD s d a s.size ∧ e = .returned (.int .i64 (-1)))) := by
  go_enter Tryf.func12, Tryf.ntmps12
  go_wp2_with fail
  go_loop [7] (fun i => ∃ k : Nat, a ≤ k ∧ k ≤ s.size ∧ i = .int .i64 k ∧ NoD s d a k) (fun i => s.size - (intOf i).toNat)
  case atStart => exact ⟨a, Nat.le_refl _, ha, rfl, fun k h1 h2 => by omega⟩
  case round =>
    obtain ⟨k, hk1, hk, rfl, hn⟩ := hrel
    have HN := hide hn
    clear hn
    by_cases hlt : k < s.size
    · have hu := u8_beq s[k] d
      have HB := hide (byt_at s k hlt)
      by_cases hc : s[k] = d
      · have hc' : (s[k] == d) = true := by simpa using hc
        rw [hc'] at hu
        have HC := hide hc
        clear hc hc'
        go_wp2_with fail
        go_ret
        exact ⟨rfl, .inl ⟨k, hk1, hlt, (unhide HB).trans (unhide HC), unhide HN, rfl⟩⟩
      · have hc' : (s[k] == d) = false := by simpa using hc
        rw [hc'] at hu
        have HC := hide hc
        clear hc hc'
        go_wp2_with fail
        go_round
        case rel =>
          refine ⟨k + 1, by omega, hlt, by go_num, fun j j1 j2 => ?_⟩
          by_cases hj : j = k
          · subst hj; rw [unhide HB]; exact unhide HC
          · exact unhide HN j j1 (by omega)
        case measure => simp [intOf]; omega
    · go_wp2_with fail
      go_ret
      refine ⟨rfl, .inr ⟨?_, rfl⟩⟩
      have : k = s.size := by omega
      rw [← this]
      exact unhide HN

set_option maxRecDepth 100000 in
theorem stranger_any (s : ByteArray) (w : World) (hs : s.size ≤ 2097152) :
    Calls Tryf.prog 14 #[.string s] w fun e w' => w' = w ∧ ((∃ j : Nat, j < s.size ∧ keyc (byt s j) = false ∧ (∀ k, k < j → keyc (byt s k) = true) ∧ e = .returned (.int .i64 (j : Nat))) ∨ ((∀ k, k < s.size → keyc (byt s k) = true) ∧ e = .returned (.int .i64 (-1)))) := by
  go_enter Tryf.func14, Tryf.ntmps14
  go_wp2_with fail
  go_loop [3] (fun i => ∃ k : Nat, k ≤ s.size ∧ i = .int .i64 k ∧ ∀ j, j < k → keyc (byt s j) = true) (fun i => s.size - (intOf i).toNat)
  case atStart => exact ⟨0, Nat.zero_le _, rfl, fun k h => by omega⟩
  case round =>
    obtain ⟨k, hk, rfl, hn⟩ := hrel
    have HN := hide hn
    clear hn
    by_cases hlt : k < s.size
    · have HB := hide (byt_at s k hlt)
      have HK := hide (keyByte_any s[k] w)
      cases hc : keyc s[k]
      · rw [hc] at HK
        have HC := hide hc
        clear hc
        go_wp2_with fail
        refine (unhide HK).mono ?_
        rintro e w' ⟨rfl, rfl⟩
        go_wp2_with fail
        go_ret
        exact ⟨rfl, .inl ⟨k, hlt, by rw [unhide HB]; exact unhide HC, unhide HN, rfl⟩⟩
      · rw [hc] at HK
        have HC := hide hc
        clear hc
        go_wp2_with fail
        refine (unhide HK).mono ?_
        rintro e w' ⟨rfl, rfl⟩
        go_wp2_with fail
        go_round
        case rel =>
          refine ⟨k + 1, hlt, by go_num, fun j j2 => ?_⟩
          by_cases hj : j = k
          · subst hj; rw [unhide HB]; exact unhide HC
          · exact unhide HN j (by omega)
        case measure => simp [intOf]; omega
    · go_wp2_with fail
      go_ret
      refine ⟨rfl, .inr ⟨?_, rfl⟩⟩
      have : k = s.size := by omega
      rw [← this]
      exact unhide HN
end Go.Proofs.Qxb6614301aFmt
