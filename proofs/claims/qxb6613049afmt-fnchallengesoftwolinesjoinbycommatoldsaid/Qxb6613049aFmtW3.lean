import Derived.Test.Qxb6613049aFmtW2
namespace Go.Proofs.Qxb6613049aFmt
open Go.RowKit

theorem extract_eq (s : ByteArray) (i k : Nat) : s.extract i k = ⟨((s.data.toList.take k).drop i).toArray⟩ := by
  apply ByteArray.ext
  apply Array.toList_inj.1
  rw [ByteArray.data_extract, Array.toList_extract, List.extract_eq_drop_take', List.toList_toArray]

set_option maxHeartbeats 1000000 in
theorem token_any (rb : Nat) (s : ByteArray) (i : Nat) (w : World) (h : Rd rb s i w) (hi : i ≤ s.size) (hs : s.size ≤ 4194304) :
    Calls Tryf.prog 26 #[.pointer (some ⟨rb, 0, none⟩)] w fun e w' => e = .returned (.string ⟨((s.data.toList.drop i).takeWhile tch).toArray⟩) ∧ Steps rb s (runEnd tch s.data.toList i : Nat) w w' := by
  obtain ⟨r, c0, c1, c2, f1, f2⟩ := h.cells
  have HR := hide h
  clear h
  go_enter Tryf.func26, Tryf.ntmps26
  go_wp2
  go_loopw [] (fun wr => ∃ k : Nat, i ≤ k ∧ k ≤ s.size ∧ runEnd tch s.data.toList k = runEnd tch s.data.toList i ∧ Steps rb s k w wr) (fun wr => s.size - posOf rb wr)
  case atStart => exact ⟨i, Nat.le_refl _, hi, rfl, unhide HR, Only.refl _ _⟩
  case round =>
    obtain ⟨k, hik, hk, hrun, hst⟩ := hrel
    obtain ⟨r', d0, d1, d2, g1, g2⟩ := hst.1.cells
    clear c0 c1 c2 f1 f2
    have HS := hide hst
    have HRun := hide hrun
    clear hst hrun
    by_cases hlt : k < s.size
    · have hd : decide ((k : Int) < s.size) = true := by simp; omega
      cases hw : tch s[k] with
      | true =>
        go_wp2
        go_region_held3 (fun w' => w'.cell? ⟨rb, 0, none⟩ = some (.string s) ∧ w'.cell? ⟨rb, 1, none⟩ = some (.int .i64 k)) (go_keep) (first | (go_at_call 36; refine (byteAt_any rb s k k _ (by exact (unhide HS).1) hlt).mono ?_; rintro e w' ⟨rfl, hst⟩; obtain ⟨r', e0, e1, e2, h1, h2⟩ := hst.1.cells) | (go_at_call 35; refine (isTokenChar_any _ _).mono ?_; rw [hw]; rintro e w'' ⟨rfl, rfl⟩))
        go_wp2
        go_roundw
        case rel => exact ⟨k + 1, by omega, by omega, (runEnd_step tch _ k (by simpa using hlt) hw).trans (unhide HRun), by
          have := ((unhide HS).trans hst.of_drew).set1 ((k : Int) + 1)
          rw [show (((k + 1 : Nat)) : Int) = (k : Int) + 1 by omega]
          exact this⟩
        case measure => rw [posOf_set hst.1, posOf_rd (unhide HS).1]; omega
      | false =>
        go_wp2
        go_region_held3 (fun w' => w'.cell? ⟨rb, 0, none⟩ = some (.string s) ∧ w'.cell? ⟨rb, 1, none⟩ = some (.int .i64 k)) (go_keep) (first | (go_at_call 36; refine (byteAt_any rb s k k _ (by exact (unhide HS).1) hlt).mono ?_; rintro e w' ⟨rfl, hst⟩; obtain ⟨r', e0, e1, e2, h1, h2⟩ := hst.1.cells) | (go_at_call 35; refine (isTokenChar_any _ _).mono ?_; rw [hw]; rintro e w'' ⟨rfl, rfl⟩))
        go_wp2
        go_quiet (fail)
        go_wp2
        go_ret
        have he := (unhide HRun).symm.trans (runEnd_stop tch _ k (by simpa using hlt) hw)
        have hsl := slice_runEnd tch s.data.toList i
        rw [he] at hsl
        rw [he]
        exact ⟨by rw [← hsl, ← extract_eq]; rfl, ((unhide HS).trans hst.of_drew).drewN nq⟩
    · have hd : decide ((k : Int) < s.size) = false := by simp; omega
      go_wp2
      go_quiet (fail)
      go_wp2
      go_quiet (fail)
      go_wp2
      go_ret
      have he := (unhide HRun).symm.trans (runEnd_end tch _ k (by simp; omega))
      have hsl := slice_runEnd tch s.data.toList i
      rw [he] at hsl
      rw [he]
      exact ⟨by rw [← hsl, ← extract_eq]; rfl, ((unhide HS).drewN _).drewN nq⟩

end Go.Proofs.Qxb6613049aFmt
