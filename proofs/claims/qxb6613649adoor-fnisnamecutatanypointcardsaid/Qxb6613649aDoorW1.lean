import Derived.Test.Qxb6613649aDoorKit
namespace Go.Proofs.Qxb6613649aDoor
open Go.RowKit

set_option maxHeartbeats 4000000 in
theorem nameLength_any (s : ByteArray) (w : World) (hs : s.size ≤ 4194304) :
    Calls Tryd.prog 14 #[.string s] w fun e w' => e = .returned (.int .i64 (nameLen s.data.toList : Nat)) ∧ w = w' := by
  have hl : s.data.toList.length = s.size := by simp
  have HL := hide hl
  clear hl
  go_enter Tryd.func14, Tryd.ntmps14
  go_wp2_with fail
  go_loop [8, 3, 4, 5] (fun i _ _ _ => ∃ k : Nat, k ≤ s.size ∧ i = .int .i64 k ∧ (k = 0 ∨ (1 ≤ k ∧ nameLen s.data.toList = runEnd nch s.data.toList k))) (fun i _ _ _ => s.size - (intOf i).toNat)
  case atStart => exact ⟨0, Nat.zero_le _, rfl, .inl rfl⟩
  case round =>
    obtain ⟨k, hk, rfl, hinv⟩ := hrel
    have HI := hide hinv
    clear hinv
    by_cases hlt : k < s.size
    · have hcm := cms s[k]
      by_cases h0 : k = 0
      · subst h0
        have HGo : Hid (letter s[0] = true → nameLen s.data.toList = runEnd nch s.data.toList 1) := hide fun h => nameLen_first _ (by rw [unhide HL]; exact hlt) h
        have HSt : Hid (letter s[0] = false → nameLen s.data.toList = 0) := hide fun h => nameLen_none _ (by rw [unhide HL]; exact hlt) h
        rcases hcm with h | h | h | h | h | h | h | h | h | h | h
        all_goals
          obtain ⟨⟨h1, h2, h3, h4, h5, h6, h7, h8⟩, hle, hnc⟩ := h
          have HLe := hide hle
          clear hle hnc
          go_wp2_with fail
          first
          | (go_round
             case rel => exact ⟨1, by omega, by go_num, .inr ⟨Nat.le_refl _, unhide HGo (unhide HLe)⟩⟩
             case measure => simp [intOf]; omega)
          | (go_ret
             exact ⟨by rw [unhide HSt (unhide HLe)]; rfl, rfl⟩)
      · have hk1 : ((k : Int) == 0) = false := by simp; omega
        have HGo : Hid (nch s[k] = true → nameLen s.data.toList = runEnd nch s.data.toList (k + 1)) := hide fun h => by
          rcases unhide HI with h1 | ⟨_, h1⟩
          · omega
          · rw [h1]; exact (runEnd_step nch _ k (by rw [unhide HL]; exact hlt) h).symm
        have HSt : Hid (nch s[k] = false → nameLen s.data.toList = k) := hide fun h => by
          rcases unhide HI with h1 | ⟨_, h1⟩
          · omega
          · rw [h1]; exact runEnd_stop nch _ k (by rw [unhide HL]; exact hlt) h
        rcases hcm with h | h | h | h | h | h | h | h | h | h | h
        all_goals
          obtain ⟨⟨h1, h2, h3, h4, h5, h6, h7, h8⟩, hle, hnc⟩ := h
          have HNc := hide hnc
          clear hle hnc
          go_wp2_with fail
          first
          | (go_round
             case rel => exact ⟨k + 1, by omega, by go_num, .inr ⟨by omega, unhide HGo (unhide HNc)⟩⟩
             case measure => simp [intOf]; omega)
          | (go_ret
             exact ⟨by rw [unhide HSt (unhide HNc)]; rfl, rfl⟩)
    · go_wp2_with fail
      go_ret
      refine ⟨ret_i64 ?_, rfl⟩
      rcases unhide HI with h1 | ⟨_, h1⟩
      · have : s.data.toList = [] := List.eq_nil_of_length_eq_zero (by rw [unhide HL]; omega)
        rw [this]
        show (s.size : Int) = ((0 : Nat) : Int)
        omega
      · rw [h1, runEnd_end nch _ k (by rw [unhide HL]; omega)]
        omega
end Go.Proofs.Qxb6613649aDoor
