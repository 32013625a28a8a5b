/-
  Walks: checkText, isFtext, nameLen, Name.
-/
import Derived.Test.Qxb6612277aFmtW1
import Derived.Test.Qxb6612277aFmtStop
namespace Go.Proofs.Qxb6612277aFmt
open Go.RowKit Go.Extern.Stop Go.Stop Go.Extern

/-- What checkText answers. -/
def ChecksText (s : ByteArray) (w : World) (e : Ending) (w' : World) : Prop :=
  (holdable s.data.toList = true ∧ e = .returned .nilIface ∧ w = w') ∨ (holdable s.data.toList = false ∧ GivesErr w e w')

theorem ba_get (s : ByteArray) (k : Nat) (h : k < s.size) : s.data.toList[k]'(by simpa using h) = s[k] := rfl

theorem GivesErr.from {w w0 : World} {e : Ending} {w' : World} (h : GivesErr w e w') (hb : Below w0.heap.size w0 w) : GivesErr w0 e w' := by
  obtain ⟨N, s, he, hc, hw⟩ := h
  exact ⟨N, s, he, hc, hb.trans (hw.mono hb.size)⟩

set_option maxRecDepth 100000 in
set_option maxHeartbeats 1000000 in
theorem checkText_any (F : Interp) (s : ByteArray) (w : World) (hF : F.answers w.tape) (hs : s.size ≤ 1048576) :
    Calls Tryf.prog 25 #[.string s] w (ChecksText s w) := by
  go_enter Tryf.func25, Tryf.ntmps25
  go_wp2
  go_loop [3] (fun i => ∃ k : Nat, k ≤ s.size ∧ i = .int .i64 k ∧ holdable (s.data.toList.take k) = true) (fun i => s.size - (intOf i).toNat)
  case atStart => exact ⟨0, Nat.zero_le _, rfl, by simp [holdable]⟩
  case round =>
    obtain ⟨k, hk, rfl, hb⟩ := hrel
    have HB := hide hb
    clear hb
    by_cases hlt : k < s.size
    · have hlt' : k < s.data.toList.length := by simpa using hlt
      have hby := byte_lt s[k]
      rcases (show (s[k].toNat : Int) = 9 ∨ (32 ≤ (s[k].toNat : Int) ∧ (s[k].toNat : Int) ≤ 126) ∨ (¬ (s[k].toNat : Int) = 9 ∧ (s[k].toNat : Int) < 32) ∨ (s[k].toNat : Int) = 127 ∨ 127 < (s[k].toNat : Int) from by omega) with h | h | h | h | h
      · have h9 : ((s[k].toNat : Int) != 9) = false := by simp [h]
        have HH := hide h
        have hl : (s[k].toNat : Int) < 32 := by omega
        clear h
        go_wp2
        go_round
        case rel => exact ⟨k + 1, by omega, by go_num, by rw [holdable_snoc s.data.toList k hlt', unhide HB, ba_get s k hlt, holdB_yes (by have := unhide HH; omega)]; rfl⟩
        case measure => simp [intOf]; omega
      · go_wp2
        go_round
        case rel => exact ⟨k + 1, by omega, by go_num, by rw [holdable_snoc s.data.toList k hlt', unhide HB, ba_get s k hlt, holdB_yes (by omega)]; rfl⟩
        case measure => simp [intOf]; omega
      · obtain ⟨h9, hl⟩ := h
        have hb9 : ((s[k].toNat : Int) != 9) = true := by simp [h9]
        go_wp2_with (go_at_call 31; refine (errorf_B F (s[k].toNat : Int) k w.heap.size _ (by exact hF) (by go_simp) (by go_simp)).mono ?_; rintro e w' ⟨N, t, rfl, hc, hb⟩)
        go_ret
        exact .inr ⟨holdable_bad _ k hlt' (by rw [ba_get s k hlt]; exact holdB_no (by omega) (by omega)), N, t, rfl, hc, ((Below.refl _ w).alloc (Nat.le_refl _) _).trans (hb.mono (by simp))⟩
      · have hb7 : ((s[k].toNat : Int) == 127) = true := by simp [h]
        have HH := hide h
        have hl1 : 127 ≤ (s[k].toNat : Int) := by omega
        have hl2 : (s[k].toNat : Int) < 128 := by omega
        clear h
        go_wp2_with (go_at_call 31; refine (errorf_B F (s[k].toNat : Int) k w.heap.size _ (by exact hF) (by go_simp) (by go_simp)).mono ?_; rintro e w' ⟨N, t, rfl, hc, hb⟩)
        go_ret
        exact .inr ⟨holdable_bad _ k hlt' (by rw [ba_get s k hlt]; exact holdB_no (by omega) (by omega)), N, t, rfl, hc, ((Below.refl _ w).alloc (Nat.le_refl _) _).trans (hb.mono (by simp))⟩
      · go_wp2_with (go_at_call 31; refine (errorf_A F (s[k].toNat : Int) k w.heap.size _ (by exact hF) (by go_simp) (by go_simp)).mono ?_; rintro e w' ⟨N, t, rfl, hc, hb⟩)
        go_ret
        exact .inr ⟨holdable_bad _ k hlt' (by rw [ba_get s k hlt]; exact holdB_no (by omega) (by omega)), N, t, rfl, hc, ((Below.refl _ w).alloc (Nat.le_refl _) _).trans (hb.mono (by simp))⟩
    · go_wp2
      go_ret
      have h := unhide HB
      rw [List.take_of_length_le (by simp; omega)] at h
      exact .inl ⟨h, rfl, rfl⟩

/-- A byte that may stand in a field's name. -/
def ft (c : UInt8) : Bool := decide (32 < (c.toNat : Int)) && decide ((c.toNat : Int) < 127) && ((c.toNat : Int) != 58)

set_option maxRecDepth 100000 in
set_option maxHeartbeats 400000 in
theorem isFtext_any (c : UInt8) (w : World) :
    Calls Tryf.prog 50 #[.int .u8 (c.toNat : Int)] w fun e w' => e = .returned (.bool (ft c)) ∧ w = w' := by
  unfold ft
  by_cases h1 : 32 < (c.toNat : Int)
  · by_cases h2 : (c.toNat : Int) < 127
    · go_enter Tryf.func50, Tryf.ntmps50
      go_wp2
      all_goals go_ret
      all_goals exact ⟨ret_bool (by simp [*]), rfl⟩
    · have h2' : 127 ≤ (c.toNat : Int) := by omega
      go_enter Tryf.func50, Tryf.ntmps50
      go_wp2
      all_goals go_ret
      all_goals exact ⟨ret_bool (by simp [*]; omega), rfl⟩
  · have h1' : (c.toNat : Int) ≤ 32 := by omega
    go_enter Tryf.func50, Tryf.ntmps50
    go_wp2
    all_goals go_ret
    all_goals exact ⟨ret_bool (by simp [*]; omega), rfl⟩

/-- Some length comes back; the world is as it was. -/
def GivesLen (n : Nat) (w : World) (e : Ending) (w' : World) : Prop := ∃ m : Nat, m ≤ n ∧ e = .returned (.int .i64 m) ∧ w = w'

set_option maxRecDepth 100000 in
set_option maxHeartbeats 1000000 in
theorem nameLen_any (p : Option Addr) (n c : Nat) (l : List UInt8) (w : World) (hl : l.length = n) (hn : n ≤ 1048576) (hc : BA w p l) :
    Calls Tryf.prog 32 #[.slice p n c] w (GivesLen n w) := by
  go_enter Tryf.func32, Tryf.ntmps32
  go_wp2
  go_loop [3] (fun i => ∃ k : Nat, k ≤ n ∧ i = .int .i64 k) (fun i => n - (intOf i).toNat)
  case atStart => exact ⟨0, Nat.zero_le _, rfl⟩
  case round =>
    obtain ⟨k, hk, rfl⟩ := hrel
    by_cases hlt : k < n
    · obtain ⟨b, o, rfl, hcell⟩ := hc k (by omega)
      cases hf : ft l[k] with
      | true =>
        go_wp2_with (go_at_call 50; refine (isFtext_any _ _).mono ?_; rintro e w' ⟨rfl, rfl⟩)
        go_round
        case rel => exact ⟨k + 1, by omega, by go_num⟩
        case measure => simp [intOf]; omega
      | false =>
        cases hk0 : ((k : Int) == 0) with
        | true =>
          go_wp2_with (go_at_call 50; refine (isFtext_any _ _).mono ?_; rintro e w' ⟨rfl, rfl⟩)
          go_ret
          exact ⟨0, Nat.zero_le _, rfl, rfl⟩
        | false =>
          go_wp2_with (go_at_call 50; refine (isFtext_any _ _).mono ?_; rintro e w' ⟨rfl, rfl⟩)
          go_loop [4] (fun i => ∃ j : Nat, j ≤ n ∧ i = .int .i64 j) (fun i => n - (intOf i).toNat)
          case atStart => exact ⟨k, by omega, rfl⟩
          case round =>
            obtain ⟨j, hj, rfl⟩ := hrel
            by_cases hjn : j < n
            · obtain ⟨b2, o2, e2, hcell2⟩ := hc j (by omega)
              cases e2
              rcases (show ((l[j].toNat : Int) == 32) = true ∨ (((l[j].toNat : Int) == 32) = false ∧ ((l[j].toNat : Int) == 9) = true) ∨ (((l[j].toNat : Int) == 32) = false ∧ ((l[j].toNat : Int) == 9) = false) from by cases ((l[j].toNat : Int) == 32) <;> cases ((l[j].toNat : Int) == 9) <;> simp) with h | h | h
              · go_wp2
                go_round
                case rel => exact ⟨j + 1, by omega, by go_num⟩
                case measure => simp [intOf]; omega
              · obtain ⟨h1, h2⟩ := h
                go_wp2
                go_round
                case rel => exact ⟨j + 1, by omega, by go_num⟩
                case measure => simp [intOf]; omega
              · obtain ⟨h1, h2⟩ := h
                go_wp2
                all_goals go_ret
                all_goals first | exact ⟨0, Nat.zero_le _, rfl, rfl⟩ | exact ⟨k, by omega, rfl, rfl⟩
            · obtain rfl : j = n := by omega
              go_wp2
              all_goals go_ret
              all_goals first | exact ⟨0, Nat.zero_le _, rfl, rfl⟩ | exact ⟨k, by omega, rfl, rfl⟩
    · obtain rfl : k = n := by omega
      cases hk0 : ((k : Int) == 0) with
      | true =>
        go_wp2
        go_ret
        exact ⟨0, Nat.zero_le _, rfl, rfl⟩
      | false =>
        go_wp2
        go_loop [4] (fun i => ∃ j : Nat, j ≤ k ∧ i = .int .i64 j) (fun i => k - (intOf i).toNat)
        case atStart => exact ⟨k, by omega, rfl⟩
        case round =>
          obtain ⟨j, hj, rfl⟩ := hrel
          by_cases hjn : j < k
          · obtain ⟨b2, o2, e2, hcell2⟩ := hc j (by omega)
            subst e2
            rcases (show ((l[j].toNat : Int) == 32) = true ∨ (((l[j].toNat : Int) == 32) = false ∧ ((l[j].toNat : Int) == 9) = true) ∨ (((l[j].toNat : Int) == 32) = false ∧ ((l[j].toNat : Int) == 9) = false) from by cases ((l[j].toNat : Int) == 32) <;> cases ((l[j].toNat : Int) == 9) <;> simp) with h | h | h
            · go_wp2
              go_round
              case rel => exact ⟨j + 1, by omega, by go_num⟩
              case measure => simp [intOf]; omega
            · obtain ⟨h1, h2⟩ := h
              go_wp2
              go_round
              case rel => exact ⟨j + 1, by omega, by go_num⟩
              case measure => simp [intOf]; omega
            · obtain ⟨h1, h2⟩ := h
              go_wp2
              all_goals go_ret
              all_goals first | exact ⟨0, Nat.zero_le _, rfl, rfl⟩ | exact ⟨k, by omega, rfl, rfl⟩
          · obtain rfl : j = k := by omega
            go_wp2
            all_goals go_ret
            all_goals first | exact ⟨0, Nat.zero_le _, rfl, rfl⟩ | exact ⟨k, by omega, rfl, rfl⟩

end Go.Proofs.Qxb6612277aFmt
