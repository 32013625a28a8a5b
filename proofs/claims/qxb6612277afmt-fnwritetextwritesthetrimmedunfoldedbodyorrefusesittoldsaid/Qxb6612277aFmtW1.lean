/-
  Walks: the law's own small functions.
-/
import Derived.Test.Qxb6612277aFmtKit
namespace Go.Proofs.Qxb6612277aFmt
open Go.RowKit

set_option maxHeartbeats 400000 in
theorem zzBytes_big (p : Option Addr) (n c : Nat) (w : World) (h : 1048576 < n) (hn : n ≤ 9223372036854775807) :
    Calls Tryf.prog 11 #[.slice p n c] w fun e w' => e = .returned (.bool false) ∧ w = w' := by
  go_enter Tryf.func11, Tryf.ntmps11
  go_wp2
  go_ret
  exact ⟨rfl, rfl⟩

set_option maxHeartbeats 400000 in
theorem zzBytes_ok (p : Option Addr) (n c : Nat) (w : World) (h : n ≤ 1048576) :
    Calls Tryf.prog 11 #[.slice p n c] w fun e w' => e = .returned (.bool true) ∧ w = w' := by
  go_enter Tryf.func11, Tryf.ntmps11
  go_wp2
  go_ret
  exact ⟨rfl, rfl⟩

set_option maxHeartbeats 400000 in
theorem zzWSP_any (c : UInt8) (w : World) :
    Calls Tryf.prog 20 #[.int .u8 (c.toNat : Int)] w fun e w' => e = .returned (.bool (wsp c)) ∧ w = w' := by
  rw [← wsp_int c]
  go_enter Tryf.func20, Tryf.ntmps20
  go_wp2
  all_goals go_ret
  · rename_i h
    refine ⟨?_, rfl⟩
    simp [h]
  · exact ⟨rfl, rfl⟩

set_option maxHeartbeats 400000 in
theorem isWSP_any (c : UInt8) (w : World) :
    Calls Tryf.prog 34 #[.int .u8 (c.toNat : Int)] w fun e w' => e = .returned (.bool (wsp c)) ∧ w = w' := by
  rw [← wsp_int c]
  go_enter Tryf.func34, Tryf.ntmps34
  go_wp2
  all_goals go_ret
  · rename_i h
    refine ⟨?_, rfl⟩
    simp [h]
  · exact ⟨rfl, rfl⟩

theorem ret_i64 {a b : Int} (h : a = b) : Ending.returned (.int .i64 a) = .returned (.int .i64 b) := by rw [h]
theorem ret_bool {a b : Bool} (h : a = b) : Ending.returned (.bool a) = .returned (.bool b) := by rw [h]
theorem eq58 {c : UInt8} (h : ((c.toNat : Int) == 58) = true) : c = 58 := by
  apply UInt8.toNat_inj.1; simp at h ⊢; omega
theorem ne58 {c : UInt8} (h : ((c.toNat : Int) == 58) = false) : c ≠ 58 := by
  rintro rfl; simp at h
theorem bodyStart_hit (l : List UInt8) (k : Nat) (h : k < l.length) (hb : bodyStart (l.drop k) k = bodyStart l 0) (hc : l[k] = 58) : bodyStart l 0 = k + 1 := by
  rw [← hb, List.drop_eq_getElem_cons h]; simp [bodyStart, hc]
theorem bodyStart_miss (l : List UInt8) (k : Nat) (h : k < l.length) (hb : bodyStart (l.drop k) k = bodyStart l 0) (hc : l[k] ≠ 58) : bodyStart (l.drop (k + 1)) (k + 1) = bodyStart l 0 := by
  rw [← hb, List.drop_eq_getElem_cons h]; simp [bodyStart, hc]

set_option maxHeartbeats 400000 in
theorem zzBodyStart_any (p : Option Addr) (n c : Nat) (l : List UInt8) (w : World) (hl : l.length = n) (hn : n ≤ 1048576) (hc : BA w p l) :
    Calls Tryf.prog 13 #[.slice p n c] w fun e w' => e = .returned (.int .i64 (bodyStart l 0 : Nat)) ∧ w = w' := by
  go_enter Tryf.func13, Tryf.ntmps13
  go_wp2
  go_loop [3] (fun i => ∃ k : Nat, k ≤ n ∧ i = .int .i64 k ∧ bodyStart (l.drop k) k = bodyStart l 0) (fun i => n - (intOf i).toNat)
  case atStart => exact ⟨0, Nat.zero_le _, rfl, by simp⟩
  case round =>
    obtain ⟨k, hk, rfl, hb⟩ := hrel
    have HB := hide hb
    clear hb
    by_cases hlt : k < n
    · obtain ⟨b, o, rfl, hcell⟩ := hc k (by omega)
      clear hc
      go_wp2
      · have h1 : ((l[k].toNat : Int) == 58) = true := by assumption
        go_ret
        exact ⟨ret_i64 (by rw [bodyStart_hit l k (by omega) (unhide HB) (eq58 h1)]; omega), rfl⟩
      · have h1 : ((l[k].toNat : Int) == 58) = false := by assumption
        go_round
        case rel => exact ⟨k + 1, by omega, by go_num, bodyStart_miss l k (by omega) (unhide HB) (ne58 h1)⟩
        case measure => simp [intOf]; omega
    · go_wp2
      go_ret
      refine ⟨ret_i64 ?_, rfl⟩
      have := unhide HB
      rw [List.drop_eq_nil_of_le (by omega)] at this
      simp [bodyStart] at this
      omega

theorem eq9 {c : UInt8} (h : ((c.toNat : Int) == 9) = true) : c = 9 := by
  apply UInt8.toNat_inj.1; simp at h ⊢; omega

theorem holdable_snoc (l : List UInt8) (k : Nat) (h : k < l.length) : holdable (l.take (k + 1)) = (holdable (l.take k) && holdB l[k]) := by
  unfold holdable; rw [List.take_succ_eq_append_getElem h, List.all_append]; simp only [List.all_cons, List.all_nil, Bool.and_true]

theorem holdable_bad (l : List UInt8) (k : Nat) (h : k < l.length) (hb : holdB l[k] = false) : holdable l = false := by
  unfold holdable; rw [List.all_eq_false]; exact ⟨l[k], List.getElem_mem h, by simp [hb]⟩

theorem holdB_yes {c : UInt8} (h : (c.toNat : Int) = 9 ∨ (32 ≤ (c.toNat : Int) ∧ (c.toNat : Int) ≤ 126)) : holdB c = true := by
  unfold holdB
  rcases h with h | h
  · have : c = 9 := by apply UInt8.toNat_inj.1; simp; omega
    simp [this]
  · simp only [Bool.or_eq_true, Bool.and_eq_true, decide_eq_true_eq]
    right; omega
theorem holdB_no {c : UInt8} (h : ¬ (c.toNat : Int) = 9) (h2 : (c.toNat : Int) < 32 ∨ 126 < (c.toNat : Int)) : holdB c = false := by
  unfold holdB
  have h9 : (c == 9) = false := by
    rw [beq_eq_false_iff_ne]
    rintro rfl
    simp at h
  rw [h9, Bool.false_or, Bool.and_eq_false_iff]
  simp only [decide_eq_false_iff_not]
  omega

set_option maxRecDepth 100000 in
set_option maxHeartbeats 400000 in
theorem wtHoldable_any (p : Option Addr) (n c : Nat) (l : List UInt8) (w : World) (hl : l.length = n) (hn : n ≤ 1048576) (hc : BA w p l) :
    Calls Tryf.prog 15 #[.slice p n c] w fun e w' => e = .returned (.bool (holdable l)) ∧ w = w' := by
  go_enter Tryf.func15, Tryf.ntmps15
  go_wp2
  go_loop [3] (fun i => ∃ k : Nat, k ≤ n ∧ i = .int .i64 k ∧ holdable (l.take k) = true) (fun i => n - (intOf i).toNat)
  case atStart => exact ⟨0, Nat.zero_le _, rfl, by simp [holdable]⟩
  case round =>
    obtain ⟨k, hk, rfl, hb⟩ := hrel
    have HB := hide hb
    clear hb
    by_cases hlt : k < n
    · obtain ⟨b, o, rfl, hcell⟩ := hc k (by omega)
      clear hc
      rcases (show (l[k].toNat : Int) = 9 ∨ (32 ≤ (l[k].toNat : Int) ∧ (l[k].toNat : Int) ≤ 126) ∨ (¬ (l[k].toNat : Int) = 9 ∧ (l[k].toNat : Int) < 32) ∨ 126 < (l[k].toNat : Int) from by omega) with h | h | h | h
      all_goals go_wp2
      · go_round
        case rel => exact ⟨k + 1, by omega, by go_num, by rw [holdable_snoc l k (by omega), unhide HB, holdB_yes (by omega)]; rfl⟩
        case measure => simp [intOf]; omega
      · go_round
        case rel => exact ⟨k + 1, by omega, by go_num, by rw [holdable_snoc l k (by omega), unhide HB, holdB_yes (by omega)]; rfl⟩
        case measure => simp [intOf]; omega
      · go_ret
        exact ⟨ret_bool (by rw [holdable_bad l k (by omega) (holdB_no (by omega) (by omega))]), rfl⟩
      · go_ret
        exact ⟨ret_bool (by rw [holdable_bad l k (by omega) (holdB_no (by omega) (by omega))]), rfl⟩
    · go_wp2
      go_ret
      have h := unhide HB
      rw [List.take_of_length_le (by omega)] at h
      rw [h]
      exact ⟨rfl, rfl⟩
end Go.Proofs.Qxb6612277aFmt
