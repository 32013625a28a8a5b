import Derived.Test.Qxb6613049aFmtKit
import Derived.Test.Qxb6613049aFmtPlain
namespace Go.Proofs.Qxb6613049aFmt
open Go.RowKit

theorem Steps.trans {rb : Nat} {s : ByteArray} {p q : Int} {a b c : World} (h : Steps rb s p a b) (k : Steps rb s q b c) : Steps rb s q a c := ⟨k.1, h.2.trans k.2⟩
theorem Steps.drew {rb : Nat} {s : ByteArray} {p : Int} {a b : World} (h : Steps rb s p a b) : Steps rb s p a b.drew := ⟨h.1, h.2.drew⟩
theorem Steps.of_drew {rb : Nat} {s : ByteArray} {p : Int} {a b : World} (h : Steps rb s p a.drew b) : Steps rb s p a b := ⟨h.1, ⟨h.2.os, h.2.tape, h.2.output, h.2.size, h.2.block⟩⟩
theorem Steps.set1 {rb : Nat} {s : ByteArray} {p : Int} {a b : World} (h : Steps rb s p a b) (q : Int) : Steps rb s q a (b.setCell ⟨rb, 1, none⟩ (.int .i64 q)) := ⟨h.1.set1 q, h.2.setCell 1 _⟩

theorem Steps.drewN {rb : Nat} {s : ByteArray} {p : Int} {a b : World} (h : Steps rb s p a b) (n : Nat) : Steps rb s p a (b.drewN n) := by
  induction n with
  | zero => exact h
  | succ n ih => exact ih.drew

theorem ret_bool {a b : Bool} (h : a = b) : Ending.returned (.bool a) = .returned (.bool b) := by rw [h]
theorem u8_beq (a b : UInt8) : ((a.toNat : Int) == (b.toNat : Int)) = (a == b) := by
  cases h : a == b with
  | true => rw [eq_of_beq h]; simp
  | false =>
    have : a ≠ b := by simpa using h
    have h2 : a.toNat ≠ b.toNat := fun e => this (UInt8.toNat_inj.1 e)
    simp; omega
theorem get_eq (s : ByteArray) (i : Nat) (h : i < s.size) : s[i] = s.data.toList[i]'(by simpa using h) := rfl

/-- Where the reader stands. -/
def posOf (rb : Nat) (w : World) : Nat := match w.cell? ⟨rb, 1, none⟩ with | some (.int _ n) => n.toNat | _ => 0
theorem posOf_rd {rb : Nat} {s : ByteArray} {k : Nat} {w : World} (h : Rd rb s k w) : posOf rb w = k := by
  obtain ⟨r, _, c1, _⟩ := h.cells
  simp [posOf, c1]
theorem posOf_set {rb : Nat} {s : ByteArray} {k : Int} {w : World} (h : Rd rb s k w) (n : Int) : posOf rb (w.setCell ⟨rb, 1, none⟩ (.int .i64 n)) = n.toNat := by
  obtain ⟨r, _, c1, _⟩ := (h.set1 n).cells
  simp [posOf, c1]

/-- Is the byte at place i of s the byte c? -/
def isAt (L : List UInt8) (i : Nat) (c : UInt8) : Bool := L[i]? == some c
theorem isAt_lt (s : ByteArray) (i : Nat) (c : UInt8) (h : i < s.size) : isAt s.data.toList i c = (s[i] == c) := by
  unfold isAt
  rw [List.getElem?_eq_getElem (by simpa using h), ← get_eq s i h]
  rfl
theorem isAt_ge (L : List UInt8) (i : Nat) (c : UInt8) (h : L.length ≤ i) : isAt L i c = false := by
  unfold isAt
  rw [List.getElem?_eq_none h]
  rfl

set_option maxHeartbeats 400000 in
theorem at_any (rb : Nat) (s : ByteArray) (i : Nat) (c : UInt8) (w : World) (h : Rd rb s i w) (hi : i ≤ s.size) :
    Calls Tryf.prog 34 #[.pointer (some ⟨rb, 0, none⟩), .int .u8 (c.toNat : Int)] w fun e w' => e = .returned (.bool (isAt s.data.toList i c)) ∧ Steps rb s i w w' := by
  obtain ⟨r, c0, c1, c2, f1, f2⟩ := h.cells
  have HR := hide h
  clear h
  by_cases hlt : i < s.size
  · have hd : decide ((i : Int) < s.size) = true := by simp; omega
    rw [isAt_lt s i c hlt]
    go_enter Tryf.func34, Tryf.ntmps34
    go_wp2
    go_region_held3 (fun w' => w'.cell? ⟨rb, 0, none⟩ = some (.string s) ∧ w'.cell? ⟨rb, 1, none⟩ = some (.int .i64 i)) (go_keep) (first | (go_at_call 36; refine (byteAt_any rb s i i _ (by exact unhide HR) hlt).mono ?_; rintro e w' ⟨rfl, hst⟩; obtain ⟨r', d0, d1, d2, _, _⟩ := hst.1.cells))
    all_goals go_wp2
    all_goals go_ret
    all_goals exact ⟨ret_bool (u8_beq _ _), hst.of_drew⟩
  · have hd : decide ((i : Int) < s.size) = false := by simp; omega
    rw [isAt_ge _ _ _ (by simp; omega)]
    go_enter Tryf.func34, Tryf.ntmps34
    go_wp2
    go_quiet (fail)
    go_wp2
    go_ret
    exact ⟨rfl, Steps.drewN ⟨unhide HR, Only.refl rb w⟩ nq⟩

theorem isSpace_any (c : UInt8) (w : World) :
    Calls Tryf.prog 38 #[.int .u8 (c.toNat : Int)] w fun e w' => e = .returned (.bool (wsp c)) ∧ w = w' := by
  have h1 : ((c.toNat : Int) == 32) = (c == 32) := u8_beq c 32
  have h2 : ((c.toNat : Int) == 9) = (c == 9) := u8_beq c 9
  unfold wsp
  go_enter Tryf.func38, Tryf.ntmps38
  cases hx : c == 32 <;> rw [hx] at h1 <;> go_wp2 <;> go_ret <;> exact ⟨by simp, rfl⟩

set_option maxHeartbeats 1000000 in
theorem skipSpace_any (rb : Nat) (s : ByteArray) (i : Nat) (w : World) (h : Rd rb s i w) (hi : i ≤ s.size) (hs : s.size ≤ 4194304) :
    Calls Tryf.prog 28 #[.pointer (some ⟨rb, 0, none⟩)] w fun e w' => e = .returned (.bool (decide (i < runEnd wsp s.data.toList i))) ∧ Steps rb s (runEnd wsp s.data.toList i : Nat) w w' := by
  obtain ⟨r, c0, c1, c2, f1, f2⟩ := h.cells
  have HR := hide h
  clear h
  go_enter Tryf.func28, Tryf.ntmps28
  go_wp2
  go_loopw [] (fun wr => ∃ k : Nat, i ≤ k ∧ k ≤ s.size ∧ runEnd wsp s.data.toList k = runEnd wsp s.data.toList i ∧ Steps rb s k w wr) (fun wr => s.size - posOf rb wr)
  case atStart => exact ⟨i, Nat.le_refl _, hi, rfl, unhide HR, Only.refl _ _⟩
  case round =>
    obtain ⟨k, hik, hk, hrun, hst⟩ := hrel
    obtain ⟨r', d0, d1, d2, g1, g2⟩ := hst.1.cells
    clear c0 c1 c2 f1 f2
    have HS := hide hst
    have HRun := hide hrun
    clear hst hrun
    by_cases hlt : k < s.size
    · have hd : decide ((k : Int) < s.size) = true := by simp; omega
      cases hw : wsp s[k] with
      | true =>
        go_wp2
        go_region_held3 (fun w' => w'.cell? ⟨rb, 0, none⟩ = some (.string s) ∧ w'.cell? ⟨rb, 1, none⟩ = some (.int .i64 k)) (go_keep) (first | (go_at_call 36; refine (byteAt_any rb s k k _ (by exact (unhide HS).1) hlt).mono ?_; rintro e w' ⟨rfl, hst⟩; obtain ⟨r', e0, e1, e2, h1, h2⟩ := hst.1.cells) | (go_at_call 38; refine (isSpace_any _ _).mono ?_; rw [hw]; rintro e w'' ⟨rfl, rfl⟩))
        go_wp2
        go_roundw
        case rel => exact ⟨k + 1, by omega, by omega, (runEnd_step wsp _ k (by simpa using hlt) hw).trans (unhide HRun), by
          have := ((unhide HS).trans hst.of_drew).set1 ((k : Int) + 1)
          rw [show (((k + 1 : Nat)) : Int) = (k : Int) + 1 by omega]
          exact this⟩
        case measure => rw [posOf_set hst.1, posOf_rd (unhide HS).1]; omega
      | false =>
        go_wp2
        go_region_held3 (fun w' => w'.cell? ⟨rb, 0, none⟩ = some (.string s) ∧ w'.cell? ⟨rb, 1, none⟩ = some (.int .i64 k)) (go_keep) (first | (go_at_call 36; refine (byteAt_any rb s k k _ (by exact (unhide HS).1) hlt).mono ?_; rintro e w' ⟨rfl, hst⟩; obtain ⟨r', e0, e1, e2, h1, h2⟩ := hst.1.cells) | (go_at_call 38; refine (isSpace_any _ _).mono ?_; rw [hw]; rintro e w'' ⟨rfl, rfl⟩))
        go_wp2
        go_ret
        have he := (unhide HRun).symm.trans (runEnd_stop wsp _ k (by simpa using hlt) hw)
        rw [he]
        exact ⟨rfl, (unhide HS).trans hst.of_drew⟩
    · have hd : decide ((k : Int) < s.size) = false := by simp; omega
      go_wp2
      go_quiet (fail)
      go_wp2
      go_ret
      have he := (unhide HRun).symm.trans (runEnd_end wsp _ k (by simp; omega))
      rw [he]
      exact ⟨rfl, (unhide HS).drewN nq⟩

set_option maxHeartbeats 1000000 in
theorem skipEmpty_any (rb : Nat) (s : ByteArray) (i : Nat) (w : World) (h : Rd rb s i w) (hi : i ≤ s.size) (hs : s.size ≤ 4194304) :
    Calls Tryf.prog 25 #[.pointer (some ⟨rb, 0, none⟩)] w fun e w' => e = .returned (.bool (commaIn s.data.toList i)) ∧ Steps rb s (runEnd spc s.data.toList i : Nat) w w' := by
  have HR := hide h
  have hl : s.data.toList.length = s.size := by simp
  have HL := hide hl
  clear h hl
  go_enter Tryf.func25, Tryf.ntmps25
  go_wp2_with fail
  refine (skipSpace_any rb s i w (unhide HR) hi hs).mono ?_
  rintro e w1 ⟨rfl, hst1⟩
  have HS1 := hide hst1
  clear hst1
  have hle1 := runEnd_le wsp s.data.toList i (by rw [unhide HL]; exact hi)
  have hws := runEnd_wsp_spc s.data.toList i (by rw [unhide HL]; exact hi)
  have hid := runEnd_idem wsp s.data.toList i
  generalize runEnd wsp s.data.toList i = k1 at *
  have HWS := hide hws
  have HID := hide hid
  have HLE := hide hle1
  clear hws hid hle1
  go_wp2_with fail
  go_loopw [3] (fun b wr => ∃ (k : Nat) (c : Bool), k ≤ s.size ∧ b = .bool c ∧ runEnd wsp s.data.toList k = k ∧ runEnd spc s.data.toList k = runEnd spc s.data.toList i ∧ (c || commaIn s.data.toList k) = commaIn s.data.toList i ∧ Steps rb s k w wr) (fun _ wr => s.size - posOf rb wr)
  case atStart => exact ⟨k1, false, by rw [← unhide HL]; exact unhide HLE, rfl, unhide HID, (unhide HWS).1, by rw [Bool.false_or]; exact (unhide HWS).2, unhide HS1⟩
  case round =>
    obtain ⟨k, c, hk, rfl, hidk, hrun, hcm, hst⟩ := hrel
    have HS := hide hst
    have HI := hide hidk
    have HRun := hide hrun
    have HCm := hide hcm
    clear hst hidk hrun hcm
    go_wp2_with fail
    refine (at_any rb s k 44 wr (by exact (unhide HS).1) hk).mono ?_
    rintro e w2 ⟨rfl, hst2⟩
    cases hat : isAt s.data.toList k 44 with
    | true =>
      have hlt : k < s.size := by
        rcases Nat.lt_or_ge k s.size with h | h
        · exact h
        · rw [isAt_ge _ _ _ (by rw [unhide HL]; exact h)] at hat; cases hat
      have h44 : s.data.toList[k]'(by rw [unhide HL]; exact hlt) = 44 := by
        rw [isAt_lt s k 44 hlt] at hat
        exact eq_of_beq hat
      obtain ⟨r', e0, e1, e2, g1, g2⟩ := hst2.1.cells
      have hcs := comma_step s.data.toList k (by rw [unhide HL]; exact hlt) h44
      have HC := hide hcs
      have H44 := hide h44
      clear hcs h44
      have hst3 := hst2.set1 ((k : Int) + 1)
      have HS3 := hide hst3
      clear hst3
      go_wp2_with fail
      refine (skipSpace_any rb s (k + 1) _ (by rw [show (((k + 1 : Nat)) : Int) = (k : Int) + 1 by omega]; exact (unhide HS3).1) (by omega) hs).mono ?_
      rintro e w4 ⟨rfl, hst4⟩
      have hle1 := runEnd_le wsp s.data.toList (k + 1) (by rw [unhide HL]; omega)
      have hge1 := runEnd_ge wsp s.data.toList (k + 1)
      have hws := runEnd_wsp_spc s.data.toList (k + 1) (by rw [unhide HL]; omega)
      have hid := runEnd_idem wsp s.data.toList (k + 1)
      generalize runEnd wsp s.data.toList (k + 1) = k4 at *
      have HWS := hide hws
      have HID := hide hid
      clear hws hid
      go_wp2_with fail
      go_roundw
      case rel => exact ⟨k4, true, by rw [← unhide HL]; exact hle1, rfl, unhide HID, (unhide HWS).1.trans ((unhide HC).1.trans (unhide HRun)), by
        rw [← unhide HCm, (unhide HC).2]; simp, (unhide HS).trans ((unhide HS3).trans hst4)⟩
      case measure => rw [posOf_rd hst4.1, posOf_rd (unhide HS).1]; omega
    | false =>
      go_wp2_with fail
      go_ret
      have hst := comma_stop s.data.toList k (unhide HI) (fun h e => by
        rw [isAt_lt s k 44 (by rw [← unhide HL]; exact h), get_eq, e] at hat
        cases hat)
      rw [← unhide HRun, ← unhide HCm, hst.1, hst.2, Bool.or_false]
      exact ⟨rfl, (unhide HS).trans hst2⟩
end Go.Proofs.Qxb6613049aFmt
