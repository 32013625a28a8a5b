import Derived.Test.Qxb6613049aFmtW3
import Derived.Deep.CutBlock
namespace Go.Proofs.Qxb6613049aFmt
open Go.RowKit

def eqs (c : UInt8) : Bool := c == 61
/-- The end of a token68 with its closing '=' signs, from place i on. -/
def t68End (L : List UInt8) (i : Nat) : Nat := runEnd eqs L (runEnd t68 L i)
/-- A token68 stands alone at place i up to the end of its list element. -/
def t68Stands (L : List UInt8) (i : Nat) : Bool :=
  decide (i < runEnd t68 L i) && (decide (L.length ≤ runEnd wsp L (t68End L i)) || isAt L (runEnd wsp L (t68End L i)) 44)

/-- A challenge in its block. -/
def Ch (cb : Nat) (sch tok : ByteArray) (pm : Value) (w : World) : Prop :=
  w.heap[cb]? = some (.cells #[.string sch, .string tok, pm] 39 (0, 0))

set_option maxHeartbeats 1000000 in
theorem token68_none (rb cb : Nat) (s : ByteArray) (i : Nat) (w : World) (h : Rd rb s i w) (hi : i ≤ s.size)
    (hn : runEnd t68 s.data.toList i = i) :
    Calls Tryf.prog 29 #[.pointer (some ⟨rb, 0, none⟩), .pointer (some ⟨cb, 0, none⟩)] w fun e w' => e = .returned (.bool false) ∧ Steps rb s i w w' := by
  obtain ⟨r, c0, c1, c2, f1, f2⟩ := h.cells
  have HR := hide h
  have HN := hide hn
  clear h hn
  go_enter Tryf.func29, Tryf.ntmps29
  go_wp2_with fail
  go_loopw [5] (fun v wr => v = .int .i64 i ∧ Steps rb s i w wr) (fun _ _ => 0)
  case atStart => exact ⟨rfl, unhide HR, Only.refl _ _⟩
  case round =>
    obtain ⟨rfl, hst⟩ := hrel
    obtain ⟨r', d0, d1, d2, g1, g2⟩ := hst.1.cells
    clear c0 c1 c2 f1 f2
    have HS := hide hst
    clear hst
    by_cases hlt : i < s.size
    · have hd : decide ((i : Int) < s.size) = true := by simp; omega
      have hw : t68 s[i] = false := by
        cases hx : t68 s[i] with
        | false => rfl
        | true =>
          have h1 := runEnd_step t68 s.data.toList i (by simpa using hlt) hx
          have h2 := runEnd_ge t68 s.data.toList (i + 1)
          have h3 := unhide HN
          omega
      go_wp2_with (first | (go_at_call 36; refine (byteAt_any rb s i i _ (by exact (unhide HS).1) hlt).mono ?_; rintro e w' ⟨rfl, hst⟩; obtain ⟨r', e0, e1, e2, h1, h2⟩ := hst.1.cells) | (go_at_call 39; refine (isToken68Char_any _ _).mono ?_; rw [hw]; rintro e w'' ⟨rfl, rfl⟩))
      go_ret
      exact ⟨rfl, (unhide HS).trans hst⟩
    · have hd : decide ((i : Int) < s.size) = false := by simp; omega
      go_wp2_with fail
      go_ret
      exact ⟨rfl, unhide HS⟩

/-- No block of w but rb and cb turns. -/
structure Only2 (rb cb : Nat) (w w' : World) : Prop where
  os : w'.os = w.os
  tape : w'.tape = w.tape
  output : w'.output = w.output
  size : w.heap.size ≤ w'.heap.size
  block : ∀ k, k < w.heap.size → k ≠ rb → k ≠ cb → w'.heap[k]? = w.heap[k]?
theorem Only.two {rb : Nat} {w w' : World} (h : Only rb w w') (cb : Nat) : Only2 rb cb w w' := ⟨h.os, h.tape, h.output, h.size, fun k h1 h2 _ => h.block k h1 h2⟩
theorem Only2.refl (rb cb : Nat) (w : World) : Only2 rb cb w w := (Only.refl rb w).two cb
theorem Only2.trans {rb cb : Nat} {a b c : World} (h : Only2 rb cb a b) (k : Only2 rb cb b c) : Only2 rb cb a c :=
  ⟨k.os.trans h.os, k.tape.trans h.tape, k.output.trans h.output, Nat.le_trans h.size k.size, fun i hi hn hm => (k.block i (Nat.lt_of_lt_of_le hi h.size) hn hm).trans (h.block i hi hn hm)⟩
theorem Only2.drew {rb cb : Nat} {a b : World} (h : Only2 rb cb a b) : Only2 rb cb a b.drew := ⟨h.os, h.tape, h.output, h.size, h.block⟩
theorem Only2.drewN {rb cb : Nat} {a b : World} (h : Only2 rb cb a b) (n : Nat) : Only2 rb cb a (b.drewN n) := by
  induction n with
  | zero => exact h
  | succ n ih => exact ih.drew
theorem Only2.setCb {rb cb : Nat} {a b : World} (h : Only2 rb cb a b) (o : Nat) (v : Value) : Only2 rb cb a (b.setCell ⟨cb, o, none⟩ v) :=
  ⟨h.os, h.tape, h.output, by simpa [World.setCell] using h.size, fun k hk hn hm => by
    rw [← h.block k hk hn hm]; simp [World.setCell, Array.getElem?_modify, Ne.symm hm]⟩
theorem Only2.below {rb cb B : Nat} {w w' : World} (h : Only2 rb cb w w') (hB : B ≤ rb) (hC : B ≤ cb) (hs : B ≤ w.heap.size) : Below B w w' :=
  ⟨h.os, h.tape, h.output, h.size, fun k hk => h.block k (by omega) (by omega) (by omega)⟩
theorem Ch.cells {cb : Nat} {sch tok : ByteArray} {pm : Value} {w : World} (h : Ch cb sch tok pm w) :
    w.cell? ⟨cb, 0, none⟩ = some (.string sch) ∧ w.cell? ⟨cb, 1, none⟩ = some (.string tok) ∧ w.cell? ⟨cb, 2, none⟩ = some pm ∧ w.frozen? ⟨cb, 1, none⟩ = false ∧ w.frozen? ⟨cb, 2, none⟩ = false := by
  unfold Ch at h
  exact ⟨by simp [World.cell?, h], by simp [World.cell?, h], by simp [World.cell?, h], by simp [World.frozen?, h], by simp [World.frozen?, h]⟩
theorem Ch.set1 {cb : Nat} {sch tok : ByteArray} {pm : Value} {w : World} (h : Ch cb sch tok pm w) (t : ByteArray) : Ch cb sch t pm (w.setCell ⟨cb, 1, none⟩ (.string t)) := by
  unfold Ch at *
  simp [World.setCell, Array.getElem?_modify, h]
theorem Ch.set2 {cb : Nat} {sch tok : ByteArray} {pm : Value} {w : World} (h : Ch cb sch tok pm w) (m : Option Nat) : Ch cb sch tok (.map m) (w.setCell ⟨cb, 2, none⟩ (.map m)) := by
  unfold Ch at *
  simp [World.setCell, Array.getElem?_modify, h]
theorem Ch.only {rb cb : Nat} {sch tok : ByteArray} {pm : Value} {w w' : World} (h : Ch cb sch tok pm w) (ho : Only rb w w') (hne : cb ≠ rb) : Ch cb sch tok pm w' := by
  unfold Ch at *
  rw [ho.block cb (Array.getElem?_eq_some_iff.1 h).1 hne]
  exact h
theorem Rd.setOther {rb cb : Nat} {s : ByteArray} {p : Int} {w : World} (h : Rd rb s p w) (hne : cb ≠ rb) (o : Nat) (v : Value) : Rd rb s p (w.setCell ⟨cb, o, none⟩ v) := by
  obtain ⟨r, h⟩ := h
  exact ⟨r, by simp [World.setCell, Array.getElem?_modify, hne, h]⟩
theorem runEnd_lt_of (p : UInt8 → Bool) (L : List UInt8) (i : Nat) (h : i < runEnd p L i) : i < L.length := by
  rcases Nat.lt_or_ge i L.length with h1 | h1
  · exact h1
  · rw [runEnd_end p L i h1] at h; omega

/-- What token68 leaves. -/
def Tok68 (rb cb : Nat) (s sch tok : ByteArray) (pm : Value) (i : Nat) (w : World) (e : Ending) (w' : World) : Prop :=
  (t68Stands s.data.toList i = true ∧ e = .returned (.bool true) ∧ Rd rb s (runEnd wsp s.data.toList (t68End s.data.toList i) : Nat) w' ∧ Ch cb sch ⟨((s.data.toList.take (t68End s.data.toList i)).drop i).toArray⟩ pm w' ∧ Only2 rb cb w w') ∨
  (t68Stands s.data.toList i = false ∧ e = .returned (.bool false) ∧ Rd rb s i w' ∧ Ch cb sch tok pm w' ∧ Only2 rb cb w w')

set_option maxHeartbeats 2000000 in
theorem token68_some (rb cb : Nat) (s sch tok : ByteArray) (pm : Value) (i : Nat) (w : World) (h : Rd rb s i w) (hch : Ch cb sch tok pm w) (hne : cb ≠ rb) (hi : i ≤ s.size) (hs : s.size ≤ 4194304)
    (hn : i < runEnd t68 s.data.toList i) :
    Calls Tryf.prog 29 #[.pointer (some ⟨rb, 0, none⟩), .pointer (some ⟨cb, 0, none⟩)] w (Tok68 rb cb s sch tok pm i w) := by
  obtain ⟨r, c0, c1, c2, f1, f2⟩ := h.cells
  have hl : s.data.toList.length = s.size := by simp
  have HL := hide hl
  have HR := hide h
  have HN := hide hn
  have HC := hide hch
  clear h hn hl hch
  generalize hT : Tok68 rb cb s sch tok pm i w = T
  have HT := hide hT
  clear hT
  go_enter Tryf.func29, Tryf.ntmps29
  go_upto_block 0 with fail
  go_cut [5] from 11 to 25 (fun v wc => v = .int .i64 (runEnd t68 s.data.toList i : Nat) ∧ Steps rb s i w wc)
  case first =>
    go_wp2_with fail
    go_loopw [5] (fun v wr => ∃ k : Nat, i ≤ k ∧ k ≤ s.size ∧ v = .int .i64 k ∧ runEnd t68 s.data.toList k = runEnd t68 s.data.toList i ∧ Steps rb s i w wr) (fun v _ => s.size - (intOf v).toNat)
    case atStart => exact ⟨i, Nat.le_refl _, hi, rfl, rfl, unhide HR, Only.refl _ _⟩
    case round =>
      obtain ⟨k, hik, hk, rfl, hrun, hst⟩ := hrel
      obtain ⟨r', d0, d1, d2, g1, g2⟩ := hst.1.cells
      clear c0 c1 c2 f1 f2
      have HS := hide hst
      have HRun := hide hrun
      clear hst hrun
      by_cases hlt : k < s.size
      · have hd : decide ((k : Int) < s.size) = true := by simp; omega
        cases hw : t68 s[k] with
        | true =>
          go_wp2_with (first | (go_at_call 36; refine (byteAt_any rb s i k _ (by exact (unhide HS).1) hlt).mono ?_; rintro e w' ⟨rfl, hst⟩; obtain ⟨r', e0, e1, e2, h1, h2⟩ := hst.1.cells) | (go_at_call 39; refine (isToken68Char_any _ _).mono ?_; rw [hw]; rintro e w'' ⟨rfl, rfl⟩))
          go_roundw
          case rel => exact ⟨k + 1, by omega, by omega, by go_num, (runEnd_step t68 _ k (by rw [unhide HL]; exact hlt) hw).trans (unhide HRun), (unhide HS).trans hst⟩
          case measure => simp [intOf]; omega
        | false =>
          go_wp2_with (first | (go_at_call 36; refine (byteAt_any rb s i k _ (by exact (unhide HS).1) hlt).mono ?_; rintro e w' ⟨rfl, hst⟩; obtain ⟨r', e0, e1, e2, h1, h2⟩ := hst.1.cells) | (go_at_call 39; refine (isToken68Char_any _ _).mono ?_; rw [hw]; rintro e w'' ⟨rfl, rfl⟩))
          go_meet
          case rel => exact ⟨by rw [← unhide HRun, runEnd_stop t68 _ k (by rw [unhide HL]; exact hlt) hw], (unhide HS).trans hst⟩
      · have hd : decide ((k : Int) < s.size) = false := by simp; omega
        go_wp2_with fail
        go_meet
        case rel => exact ⟨by rw [← unhide HRun, runEnd_end t68 _ k (by rw [unhide HL]; omega)], unhide HS⟩
  case rest =>
    obtain ⟨rfl, hst0⟩ := hcut
    obtain ⟨r0, d0, d1, d2, g1, g2⟩ := hst0.1.cells
    have HS0 := hide hst0
    clear c0 c1 c2 f1 f2 hst0
    have hle1 := runEnd_le t68 s.data.toList i (by rw [unhide HL]; exact hi)
    have hTE : t68End s.data.toList i = runEnd eqs s.data.toList (runEnd t68 s.data.toList i) := rfl
    have hST : t68Stands s.data.toList i = (decide (s.size ≤ runEnd wsp s.data.toList (t68End s.data.toList i)) || isAt s.data.toList (runEnd wsp s.data.toList (t68End s.data.toList i)) 44) := by
      unfold t68Stands
      rw [decide_eq_true (unhide HN), Bool.true_and, unhide HL]
    have HN2 := unhide HN
    rw [unhide HL] at hle1
    generalize runEnd t68 s.data.toList i = e1 at *
    have hTEle := runEnd_le eqs s.data.toList e1 (by rw [unhide HL]; omega)
    rw [← hTE, unhide HL] at hTEle
    have hge := runEnd_ge eqs s.data.toList e1
    rw [← hTE] at hge
    have hne1 : ((e1 : Int) == (i : Int)) = false := by simp; omega
    have HTE := hide hTE
    have HST := hide hST
    clear hTE hST HN
    generalize hE2 : t68End s.data.toList i = e2 at *
    have HE2 := hide hE2
    clear hE2
    go_upto_block 2 with fail
    go_cut [5] from 32 to 46 (fun v wx => v = .int .i64 (e2 : Nat) ∧ Steps rb s i w wx)
    case first =>
      go_wp2_with fail
      go_loopw [5] (fun v wr => ∃ k : Nat, e1 ≤ k ∧ k ≤ s.size ∧ v = .int .i64 k ∧ runEnd eqs s.data.toList k = e2 ∧ Steps rb s i w wr) (fun v _ => s.size - (intOf v).toNat)
      case atStart => exact ⟨e1, Nat.le_refl _, hle1, rfl, (unhide HTE).symm, unhide HS0⟩
      case round =>
        obtain ⟨k, hik, hk, rfl, hrun, hst⟩ := hrel
        obtain ⟨r', d0, d1, d2, g1, g2⟩ := hst.1.cells
        have HS := hide hst
        have HRun := hide hrun
        clear hst hrun
        by_cases hlt : k < s.size
        · have hd : decide ((k : Int) < s.size) = true := by simp; omega
          have hb : ((s[k].toNat : Int) == 61) = (s[k] == 61) := u8_beq s[k] 61
          cases hw : eqs s[k] with
          | true =>
            have hb2 : ((s[k].toNat : Int) == 61) = true := hb.trans hw
            clear hb
            go_wp2_with (first | (go_at_call 36; refine (byteAt_any rb s i k _ (by exact (unhide HS).1) hlt).mono ?_; rintro e w' ⟨rfl, hst⟩; obtain ⟨r', e0, e1, e2, h1, h2⟩ := hst.1.cells))
            go_roundw
            case rel => exact ⟨k + 1, by omega, by omega, by go_num, (runEnd_step eqs _ k (by rw [unhide HL]; exact hlt) hw).trans (unhide HRun), (unhide HS).trans hst⟩
            case measure => simp [intOf]; omega
          | false =>
            have hb2 : ((s[k].toNat : Int) == 61) = false := hb.trans hw
            clear hb
            go_wp2_with (first | (go_at_call 36; refine (byteAt_any rb s i k _ (by exact (unhide HS).1) hlt).mono ?_; rintro e w' ⟨rfl, hst⟩; obtain ⟨r', e0, e1, e2, h1, h2⟩ := hst.1.cells))
            go_meet
            case rel => exact ⟨by rw [← unhide HRun, runEnd_stop eqs _ k (by rw [unhide HL]; exact hlt) hw], (unhide HS).trans hst⟩
        · have hd : decide ((k : Int) < s.size) = false := by simp; omega
          go_wp2_with fail
          go_meet
          case rel => exact ⟨by rw [← unhide HRun, runEnd_end eqs _ k (by rw [unhide HL]; omega)], unhide HS⟩
    case rest =>
      obtain ⟨rfl, hst1⟩ := hcut
      obtain ⟨r1, d0, d1, d2, g1, g2⟩ := hst1.1.cells
      have hst2 := hst1.set1 (e2 : Int)
      have HS2 := hide hst2
      clear hst1 hst2
      go_wp2_with fail
      refine (skipSpace_any rb s e2 _ (by exact (unhide HS2).1) hTEle hs).mono ?_
      rintro e w3 ⟨rfl, hst3⟩
      have hle3 := runEnd_le wsp s.data.toList e2 (by rw [unhide HL]; exact hTEle)
      rw [unhide HL] at hle3
      have hch3 : Ch cb sch tok pm w3 := (unhide HC).only ((unhide HS2).2.trans hst3.2) hne
      have hst4 := (unhide HS2).trans hst3
      obtain ⟨r3, k0, k1, k2, m1, m2⟩ := hst4.1.cells
      obtain ⟨n0, n1, n2, p1, p2⟩ := hch3.cells
      have HC3 := hide hch3
      have HS4 := hide hst4
      clear hch3 hst4 hst3 HC HS2 HS0 d0 d1 d2 g1 g2
      have hTr : ∀ (e : Ending) (w' : World), Tok68 rb cb s sch tok pm i w e w' → T e w' := fun e w' h => by rw [← unhide HT]; exact h
      have HTr := hide hTr
      clear hTr HT
      by_cases hend : runEnd wsp s.data.toList e2 < s.size
      · have hd : decide (((runEnd wsp s.data.toList e2 : Nat) : Int) < s.size) = true := by simp; omega
        have hST2 : t68Stands s.data.toList i = isAt s.data.toList (runEnd wsp s.data.toList e2) 44 := by
          rw [unhide HST, decide_eq_false (by omega), Bool.false_or]
        have HST2 := hide hST2
        clear hST2 HST
        generalize hq : runEnd wsp s.data.toList e2 = q at *
        have HQ := hide hq
        clear hq
        cases hat : isAt s.data.toList q 44 with
        | true =>
          go_wp2_with fail
          go_region_held3 (fun w' => w'.cell? ⟨rb, 0, none⟩ = some (.string s) ∧ w'.cell? ⟨rb, 1, none⟩ = some (.int .i64 q)) (go_keep) (first | (go_at_call 34; refine (at_any rb s q 44 _ (by exact (unhide HS4).1) hle3).mono ?_; rw [hat]; rintro e w' ⟨rfl, hst⟩; obtain ⟨r', e0, e1, e2, h1, h2⟩ := hst.1.cells))
          have hst5 := (unhide HS4).trans hst.of_drew
          obtain ⟨q0, q1, q2, q3, q4⟩ := ((unhide HC3).only hst.of_drew.2 hne).cells
          have HCf := hide ((unhide HC3).only hst.of_drew.2 hne)
          have HS5 := hide hst5
          clear hst5
          go_wp2_with fail
          refine unhide HTr _ _ (.inl ⟨(unhide HST2).trans hat, rfl, ?_, ?_, ?_⟩)
          · rw [unhide HE2, unhide HQ]
            exact (unhide HS5).1.setOther hne 1 _
          · rw [unhide HE2, ← extract_eq]
            exact (unhide HCf).set1 _
          · exact ((unhide HS5).2.two cb).setCb 1 _
        | false =>
          go_wp2_with fail
          go_region_held3 (fun w' => w'.cell? ⟨rb, 0, none⟩ = some (.string s) ∧ w'.cell? ⟨rb, 1, none⟩ = some (.int .i64 q)) (go_keep) (first | (go_at_call 34; refine (at_any rb s q 44 _ (by exact (unhide HS4).1) hle3).mono ?_; rw [hat]; rintro e w' ⟨rfl, hst⟩; obtain ⟨r', e0, e1, e2, h1, h2⟩ := hst.1.cells))
          have hst5 := (unhide HS4).trans hst.of_drew
          obtain ⟨q0, q1, q2, q3, q4⟩ := ((unhide HC3).only hst.of_drew.2 hne).cells
          have HCf := hide ((unhide HC3).only hst.of_drew.2 hne)
          have HS5 := hide hst5
          clear hst5
          go_wp2_with fail
          refine unhide HTr _ _ (.inr ⟨(unhide HST2).trans hat, rfl, ?_, ?_, ?_⟩)
          · exact ((unhide HS5).set1 _).1
          · exact (unhide HCf).only ((Only.refl rb w').setCell 1 _) hne
          · exact ((unhide HS5).set1 _).2.two cb
      · have hd : decide (((runEnd wsp s.data.toList e2 : Nat) : Int) < s.size) = false := by simp; omega
        have hST2 : t68Stands s.data.toList i = true := by
          rw [unhide HST, decide_eq_true (by omega), Bool.true_or]
        have HST2 := hide hST2
        clear hST2 HST
        generalize hq : runEnd wsp s.data.toList e2 = q at *
        have HQ := hide hq
        clear hq
        go_wp2_with fail
        go_quiet (fail)
        go_wp2_with fail
        refine unhide HTr _ _ (.inl ⟨unhide HST2, rfl, ?_, ?_, ?_⟩)
        · rw [unhide HE2, unhide HQ]
          exact ((unhide HS4).drewN nq).1.setOther hne 1 _
        · rw [unhide HE2, ← extract_eq]
          exact Ch.set1 (w := w3.drewN nq) (by exact (unhide HC3).only ((Steps.drewN ⟨(unhide HS4).1, Only.refl rb w3⟩ nq).2) hne) _
        · exact (((unhide HS4).drewN nq).2.two cb).setCb 1 _

theorem token68_any (rb cb : Nat) (s sch tok : ByteArray) (pm : Value) (i : Nat) (w : World) (h : Rd rb s i w) (hch : Ch cb sch tok pm w) (hne : cb ≠ rb) (hi : i ≤ s.size) (hs : s.size ≤ 4194304) :
    Calls Tryf.prog 29 #[.pointer (some ⟨rb, 0, none⟩), .pointer (some ⟨cb, 0, none⟩)] w (Tok68 rb cb s sch tok pm i w) := by
  by_cases hn : i < runEnd t68 s.data.toList i
  · exact token68_some rb cb s sch tok pm i w h hch hne hi hs hn
  · have he : runEnd t68 s.data.toList i = i := by have := runEnd_ge t68 s.data.toList i; omega
    refine (token68_none rb cb s i w h hi he).mono ?_
    rintro e w' ⟨rfl, hst⟩
    refine .inr ⟨?_, rfl, hst.1, hch.only hst.2 hne, hst.2.two cb⟩
    unfold t68Stands
    rw [decide_eq_false hn, Bool.false_and]
end Go.Proofs.Qxb6613049aFmt
