import Derived.Test.Qxb6614301aFmtW4
namespace Go.Proofs.Qxb6614301aFmt
open Go.RowKit

/-- bufio.ErrBufferFull. -/
def fullV (fa : Addr) : Value := .iface 100 (.pointer (some fa))
/-- The n bytes from place p on lie at o in the buffer. -/
def Chunk (bb o : Nat) (s : ByteArray) (p n : Nat) (w : World) : Prop := ∀ j, j < n → w.cell? ⟨bb, o + j, none⟩ = some (bcell s (p + j))
/-- What ReadSlice leaves. -/
def RlPost (ea fa : Addr) (rb sb bb : Nat) (s : ByteArray) (d : UInt8) (p : Nat) (w : World) (e : Ending) (w' : World) : Prop :=
  ∃ o n c v, e = .returned (.tuple #[.slice (some ⟨bb, o, none⟩) n c, v]) ∧ Chunk bb o s p n w' ∧ RD ea rb sb bb s (p + n) w' ∧ Tch [rb, sb, bb] w w' ∧ p + n ≤ s.size ∧
    ((v = .nilIface ∧ 1 ≤ n ∧ n ≤ c ∧ byt s (p + n - 1) = d ∧ NoD s d p (p + n - 1)) ∨ (v = fullV fa ∧ n = 4096 ∧ NoD s d p (p + n)) ∨ (v = eofV ea ∧ p + n = s.size ∧ NoD s d p (p + n)))

/-- How much a fill may still bring. -/
def ms (rb : Nat) (w : World) : Nat :=
  match w.cell? ⟨rb, 2, none⟩, w.cell? ⟨rb, 3, none⟩, w.cell? ⟨rb, 4, none⟩ with
  | some (.int .i64 a), some (.int .i64 b), some .nilIface => 2 * (4096 - (b - a)).toNat + 1
  | some (.int .i64 a), some (.int .i64 b), _ => 2 * (4096 - (b - a)).toNat
  | _, _, _ => 0
theorem RSx.ms1 {rb sb bb : Nat} {s : ByteArray} {p r W : Nat} {lb : Int} {w : World} (h : RSx rb sb bb s p r W .nilIface lb w) : ms rb w = 2 * (4096 - (W - r)) + 1 := by
  obtain ⟨_, _, c2, c3, c4, _⟩ := h.cells
  obtain ⟨g1, g2, _⟩ := h.le
  unfold ms
  rw [c2, c3, c4]
  simp only
  omega
theorem RSx.ms0 {ea : Addr} {rb sb bb : Nat} {s : ByteArray} {p r W : Nat} {lb : Int} {w : World} (h : RSx rb sb bb s p r W (eofV ea) lb w) : ms rb w = 2 * (4096 - (W - r)) := by
  obtain ⟨_, _, c2, c3, c4, _⟩ := h.cells
  obtain ⟨g1, g2, _⟩ := h.le
  unfold ms
  rw [c2, c3, c4]
  simp only [eofV]
  omega

theorem rd_adv {ea : Addr} {s : ByteArray} {p r W L R : Nat} {e : Value} (he : e = .nilIface ∨ (e = eofV ea ∧ p + (W - r) = s.size)) (hR : r + L = R) (hL : R ≤ W) : e = .nilIface ∨ (e = eofV ea ∧ p + L + (W - R) = s.size) := by
  rcases he with h | ⟨h, h'⟩
  · exact .inl h
  · exact .inr ⟨h, by omega⟩
theorem rl_end {rb sb bb : Nat} {s : ByteArray} {p r W L R : Nat} {e : Value} {lb : Int} {w0 w : World} (h : RSx rb sb bb s p r W e lb w) (hR : r + L = R) (hL : R ≤ W) (hL2 : L ≤ W - r) (hne : rb ≠ bb) (ht : Tch [rb, sb, bb] w0 w) (k : Nat) (x y : Int) :
    RSx rb sb bb s (p + L) R W e x ((((w.drewN k).setCell ⟨rb, 2, none⟩ (.int .i64 R)).setCell ⟨rb, 5, none⟩ (.int .i64 x)).setCell ⟨rb, 6, none⟩ (.int .i64 y)) ∧
    Chunk bb r s p L ((((w.drewN k).setCell ⟨rb, 2, none⟩ (.int .i64 R)).setCell ⟨rb, 5, none⟩ (.int .i64 x)).setCell ⟨rb, 6, none⟩ (.int .i64 y)) ∧
    Tch [rb, sb, bb] w0 ((((w.drewN k).setCell ⟨rb, 2, none⟩ (.int .i64 R)).setCell ⟨rb, 5, none⟩ (.int .i64 x)).setCell ⟨rb, 6, none⟩ (.int .i64 y)) := by
  have h' : RSx rb sb bb s p r W e lb (w.drewN k) := h
  refine ⟨((h'.adv hR hL).set5 x).set6 y, ?_, (((ht.drewN k).setCell (by simp) _).setCell (by simp) _).setCell (by simp) _⟩
  intro j hj
  rw [← h.bytes j (by omega)]
  apply World.cell?_of_block
  rw [set_other (Ne.symm hne), set_other (Ne.symm hne), set_other (Ne.symm hne)]
  rfl

set_option maxRecDepth 100000 in
set_option maxHeartbeats 4000000 in
theorem readSlice_any (ea fa : Addr) (rb sb bb : Nat) (s : ByteArray) (d : UInt8) (p : Nat) (w : World) (h : RD ea rb sb bb s p w) (hs : s.size ≤ 2097152) (hE : w.cell? ⟨0, 0, none⟩ = some (eofV ea)) (hF : w.cell? ⟨1, 0, none⟩ = some (fullV fa)) (hz : rb ≠ 0 ∧ sb ≠ 0 ∧ bb ≠ 0) (hz1 : rb ≠ 1 ∧ sb ≠ 1 ∧ bb ≠ 1) :
    Calls Tryf.prog 37 #[.pointer (some ⟨rb, 0, none⟩), .int .u8 (d.toNat : Int)] w (RlPost ea fa rb sb bb s d p w) := by
  generalize hT : RlPost ea fa rb sb bb s d p w = T
  have hTr : ∀ (e : Ending) (w' : World), RlPost ea fa rb sb bb s d p w e w' → T e w' := fun e w' h => by rw [← hT]; exact h
  have HTr := hide hTr
  obtain ⟨r0, W0, e0, lb, h, he⟩ := h
  have HI : Hid (RSx rb sb bb s p r0 W0 e0 lb w ∧ (e0 = .nilIface ∨ (e0 = eofV ea ∧ p + (W0 - r0) = s.size))) := hide ⟨h, he⟩
  have HE := hide hE
  have HF := hide hF
  have HZ := hide hz
  have HZ1 := hide hz1
  clear h he hT hTr hE hz hF hz1
  go_enter Tryf.func37, Tryf.ntmps37
  go_wp2_with fail
  go_loopw [6, 5] (fun v v5 wr => ∃ (sN r W : Nat) (e : Value) (lb' : Int), v = .int .i64 sN ∧ v5 = .nilIface ∧ RSx rb sb bb s p r W e lb' wr ∧ (e = .nilIface ∨ (e = eofV ea ∧ p + (W - r) = s.size)) ∧ sN ≤ W - r ∧ NoD s d p (p + sN) ∧ Tch [rb, sb, bb] w wr) (fun _ _ wr => ms rb wr)
  case atStart => exact ⟨0, r0, W0, e0, lb, rfl, rfl, (unhide HI).1, (unhide HI).2, Nat.zero_le _, fun k h1 h2 => by omega, Tch.refl _ _⟩
  case round =>
    obtain ⟨sN, r, W, e, lb', rfl, rfl, h, he, hsN, hno, ht⟩ := hrel
    have hrbb : rb ≠ bb := by
      obtain ⟨i, lrs, pr, bs, h1, h2, h3, _⟩ := h
      intro e
      subst e
      rw [h1] at h3
      cases h3
    clear HI
    obtain ⟨c0, c1, c2, c3, c4, c5, ⟨l6, c6⟩, f2, f3, f4, f5, f6⟩ := h.cells
    obtain ⟨g1, g2, g3⟩ := h.le
    obtain ⟨Q, hQ⟩ : ∃ Q, r + sN = Q := ⟨_, rfl⟩
    have hQ1 : (r : Int) + (sN : Int) = (Q : Int) := by omega
    have hQ2 : (Q : Int) ≤ (W : Int) := by omega
    have hQ3 : (W : Int) ≤ 4096 := by omega
    have hQ4 : (0 : Int) ≤ (Q : Int) := by omega
    have HIdx : Hid (∀ k o c, (Q = 4096 ∨ o = Q) → Calls Tryf.prog 44 #[.slice (some ⟨bb, o, none⟩) (W - Q) c, .int .u8 (d.toNat : Int)] (wr.drewN k) fun e w' => e = .returned (.int .i64 (fi s d (p + sN) (W - Q))) ∧ w' = wr.drewN k) := hide (fun k o c ho => by
      refine idx_any bb o (W - Q) c (p + sN) s d (wr.drewN k) ?_
      intro j hj
      rcases ho with ho | ho
      · omega
      · subst ho
        have := h.bytes (sN + j) (by omega)
        rw [← Nat.add_assoc, hQ] at this
        rw [show p + sN + j = p + (sN + j) by omega]
        exact this)
    have hfi := fi_cases s d (p + sN) (W - Q)
    have HS := hide h
    have HHe := hide he
    have HNo := hide hno
    have HTc := hide ht
    have HQ := hide hQ
    clear h he hno ht hQ
    by_cases hQ5 : Q = 4096
    · have hif : ((4096 : Nat) = Q) = True := eq_true hQ5.symm
      have HQ5 := hide hQ5
      rcases hfi with ⟨i, hi1, _⟩ | ⟨hi2, hi4⟩
      · omega
      · clear hQ5
        have HI4 := hide hi4
        clear hi4
        rcases unhide HHe with he | ⟨he, heq⟩
        · subst he
          by_cases hfull : W - r = 4096
          · skip
            have HR0 : Hid (r = 0 ∧ W = 4096) := hide ⟨by omega, by omega⟩
            obtain ⟨V, hV⟩ : ∃ V, W - r = V := ⟨_, rfl⟩
            have hV3 : decide ((4096 : Int) ≤ (V : Int)) = true := decide_eq_true (by omega)
            have HBuf : Hid (∀ a k, Calls Tryf.prog 45 #[.pointer (some ⟨rb, 0, none⟩)] (wr.drewN (a + k)) fun e w' => e = .returned (.int .i64 (V : Int)) ∧ ∃ m, w' = wr.drewN (a + m)) := hide (fun a k => by
              rw [← hV]
              exact (buffered_any rb sb bb s p r W .nilIface lb' (wr.drewN (a + k)) (unhide HS)).mono fun e w' ⟨h1, m, h2⟩ => ⟨h1, k + m, by rw [h2, World.drewN_drewN, Nat.add_assoc]⟩)
            have hF1 : wr.cell? ⟨1, 0, none⟩ = some (.iface 100 (.pointer (some fa))) := (unhide HTc).cell0 (unhide HF) (unhide HZ1)
            have hcL : wr.cell? ⟨bb, 4095, none⟩ = some (.int .u8 ((byt s (p + 4095)).toNat : Int)) := by
              have := (unhide HS).bytes 4095 (by omega)
              rw [(unhide HR0).1, Nat.zero_add] at this
              exact this
            have hrb1 : rb ≠ 1 := (unhide HZ1).1
            have HP : Hid (p + 4096 ≤ s.size ∧ NoD s d p (p + 4096)) := hide ⟨by omega, fun k h1 h2 => by
              have hq := unhide HQ
              have hr0 := unhide HR0
              by_cases hk : k < p + sN
              · exact unhide HNo k h1 hk
              · exact unhide HI4 k (by omega) (by omega)⟩
            generalize byt s (p + 4095) = cl at *
            clear hV hfull
            go_wp2_with fail
            go_quiet ((go_at_call 44; refine Calls.quiet_of_same (unhide HIdx _ _ _ (.inl (unhide HQ5)))))
            rw [hi2]
            go_wp2_with fail
            go_quiet ((go_at_call 45; exact unhide HBuf _ _))
            go_wp2_with fail
            obtain ⟨z0, z1⟩ := unhide HR0
            obtain ⟨t1, t2, t3⟩ := rl_end (L := 4096) (R := W) (unhide HS) (by omega) (Nat.le_refl _) (by omega) hrbb (unhide HTc) _ (wrap64 (cl.toNat : Int)) (-1)
            rw [z0] at t2
            exact unhide HTr _ _ ⟨0, 4096, 4096, fullV fa, rfl, t2, ⟨W, W, .nilIface, _, t1, .inl rfl⟩, t3, (unhide HP).1, .inr (.inl ⟨rfl, rfl, (unhide HP).2⟩)⟩
          · obtain ⟨V, hV⟩ : ∃ V, W - r = V := ⟨_, rfl⟩
            have hV1 : (W : Int) - (r : Int) = (V : Int) := by omega
            have hV2 : V < 4096 := by omega
            have hV3 : decide ((4096 : Int) ≤ (V : Int)) = false := decide_eq_false (by omega)
            have HV : Hid (W = r + V) := hide (by omega)
            have hE1 : wr.cell? ⟨0, 0, none⟩ = some (eofV ea) := (unhide HTc).cell0 (unhide HE) (unhide HZ)
            have HE1 := hide hE1
            have HBuf : Hid (∀ a k, Calls Tryf.prog 45 #[.pointer (some ⟨rb, 0, none⟩)] (wr.drewN (a + k)) fun e w' => e = .returned (.int .i64 (V : Int)) ∧ ∃ m, w' = wr.drewN (a + m)) := hide (fun a k => by
              rw [← hV]
              exact (buffered_any rb sb bb s p r W .nilIface lb' (wr.drewN (a + k)) (unhide HS)).mono fun e w' ⟨h1, m, h2⟩ => ⟨h1, k + m, by rw [h2, World.drewN_drewN, Nat.add_assoc]⟩)
            clear hE1 hV
            go_wp2_with fail
            go_quiet ((go_at_call 44; refine Calls.quiet_of_same (unhide HIdx _ _ _ (.inl (unhide HQ5)))))
            rw [hi2]
            go_wp2_with fail
            go_quiet ((go_at_call 45; exact unhide HBuf _ _))
            go_wp2_with fail
            go_quiet (fail)
            go_wp2_with fail
            refine (fill_any ea rb sb bb s p r W V lb' _ (by exact unhide HS) (unhide HV) hV2 hs (by exact unhide HE1) (unhide HZ)).mono ?_
            rintro e w2 ⟨rfl, ht2, W', e', hrs2, hcase⟩
            have HS2 := hide hrs2
            have HT2 := hide ((unhide HTc).trans ht2.of_drewN)
            clear ht2 hrs2
            go_wp2_with fail
            go_roundw
            case rel =>
              have hv := unhide HV
              have hq := unhide HQ
              have hno : NoD s d p (p + V) := fun k h1 h2 => by
                by_cases hk : k < p + sN
                · exact unhide HNo k h1 hk
                · exact unhide HI4 k (by omega) (by omega)
              refine ⟨V, 0, W', e', lb', rfl, rfl, unhide HS2, ?_, ?_, hno, unhide HT2⟩
              · rcases hcase with ⟨_, rfl, _⟩ | ⟨q1, rfl, rfl⟩
                · exact .inl rfl
                · exact .inr ⟨rfl, by omega⟩
              · rcases hcase with ⟨_, _, q⟩ | ⟨_, _, q⟩ <;> omega
            case measure =>
              have hv := unhide HV
              rw [(unhide HS).ms1]
              rcases hcase with ⟨_, rfl, q⟩ | ⟨q1, rfl, rfl⟩
              · rw [(unhide HS2).ms1]
                have := (unhide HS2).le
                omega
              · rw [(unhide HS2).ms0]
                omega
        · subst he
          have HP : Hid (p + (W - r) ≤ s.size ∧ NoD s d p (p + (W - r))) := hide ⟨by omega, fun k h1 h2 => by
            have hq := unhide HQ
            by_cases hk : k < p + sN
            · exact unhide HNo k h1 hk
            · exact unhide HI4 k (by omega) (by omega)⟩
          have HEq := hide heq
          unfold eofV at c4
          have j1 : (r : Int) ≤ (W : Int) := by omega
          have j2 : (0 : Int) ≤ (r : Int) := by omega
          obtain ⟨N, hN⟩ : ∃ N, W - r = N := ⟨_, rfl⟩
          have HRe : Hid (∀ k, Calls Tryf.prog 33 #[.pointer (some ⟨rb, 0, none⟩)] ((wr.drewN k).setCell ⟨rb, 2, none⟩ (.int .i64 W)) fun e w' => e = .returned (eofV ea) ∧ RSx rb sb bb s (p + N) W W .nilIface lb' w' ∧ Tch [rb] ((wr.drewN k).setCell ⟨rb, 2, none⟩ (.int .i64 W)) w' ∧ w'.heap[bb]? = wr.heap[bb]?) := hide (fun k => by
            have h' : RSx rb sb bb s p r W (eofV ea) lb' (wr.drewN k) := unhide HS
            refine (readErr_any rb sb bb s (p + N) W W ea lb' _ (h'.adv (by omega) (Nat.le_refl _))).mono ?_
            rintro e w' ⟨q1, q2, q3⟩
            obtain ⟨i', lrs', pr', bs', k1, k2, k3, _⟩ := h'
            have q4 : ((wr.drewN k).setCell ⟨rb, 2, none⟩ (.int .i64 W)).heap[bb]? = some (.cells bs'.toArray 5 (0, 0)) := (set_other (Ne.symm hrbb) _).trans k3
            exact ⟨q1, q2, q3, (q3.at q4 (by simp [Ne.symm hrbb])).trans k3.symm⟩)
          by_cases hN0 : N = 0
          · have j3 : W - r = 0 := by omega
            have HN0 : Hid (N = 0) := hide hN0
            have hd0 : (0 : Int) ≤ (r : Int) := by omega
            clear heq hN hN0
            by_cases hr4 : r = 4096
            · have hif2 : ((4096 : Nat) = r) = True := eq_true hr4.symm
              clear hr4
              go_wp2_with fail
              go_quiet ((go_at_call 44; refine Calls.quiet_of_same (unhide HIdx _ _ _ (.inl (unhide HQ5)))))
              rw [hi2]
              go_wp2_with fail
              go_quiet (fail)
              go_wp2_with fail
              refine (unhide HRe _).mono ?_
              unfold eofV
              rintro e w2 ⟨rfl, hrs2, ht2, _⟩
              have HS2 := hide hrs2
              have HT2 := hide ht2
              clear hrs2 ht2
              go_wp2_with fail
              have hn := unhide HN0
              have hp := unhide HP
              rw [j3] at hp
              have hs2 := unhide HS2
              rw [hn] at hs2
              exact unhide HTr _ _ ⟨0, 0, _, eofV ea, rfl, fun j hj => by omega, ⟨W, W, .nilIface, lb', hs2, .inl rfl⟩, ((unhide HTc).drewN _).setCell (by simp) _ |>.trans ((unhide HT2).mono (by intro k hk; simp at hk ⊢; exact .inl hk)), by omega, .inr (.inr ⟨rfl, by have := unhide HEq; omega, hp.2⟩)⟩
            · have hr5 : (4096 : Nat) ≠ r := by omega
              go_wp2_with fail
              go_quiet ((go_at_call 44; refine Calls.quiet_of_same (unhide HIdx _ _ _ (.inl (unhide HQ5)))))
              rw [hi2]
              go_wp2_with fail
              go_quiet (fail)
              go_wp2_with fail
              refine (unhide HRe _).mono ?_
              unfold eofV
              rintro e w2 ⟨rfl, hrs2, ht2, _⟩
              have HS2 := hide hrs2
              have HT2 := hide ht2
              clear hrs2 ht2
              go_wp2_with fail
              have hn := unhide HN0
              have hp := unhide HP
              rw [j3] at hp
              have hs2 := unhide HS2
              rw [hn] at hs2
              exact unhide HTr _ _ ⟨r, 0, _, eofV ea, rfl, fun j hj => by omega, ⟨W, W, .nilIface, lb', hs2, .inl rfl⟩, ((unhide HTc).drewN _).setCell (by simp) _ |>.trans ((unhide HT2).mono (by intro k hk; simp at hk ⊢; exact .inl hk)), by omega, .inr (.inr ⟨rfl, by have := unhide HEq; omega, hp.2⟩)⟩
          · have hr5 : (4096 : Nat) ≠ r := by omega
            obtain ⟨I, hI⟩ : ∃ I, I + 1 = N := ⟨N - 1, by omega⟩
            have i1 : (N : Int) - 1 = (I : Int) := by omega
            have i2 : (0 : Int) ≤ (I : Int) := by omega
            have i3 : (I : Int) < (N : Int) := by omega
            obtain ⟨cl, hcl⟩ : ∃ cl, byt s (p + I) = cl := ⟨_, rfl⟩
            have hcI : wr.cell? ⟨bb, r + I, none⟩ = some (.int .u8 (cl.toNat : Int)) := by
              have := (unhide HS).bytes I (by omega)
              rw [this, bcell_byt, hcl]
            have HCI := hide hcI
            have HN : Hid (W - r = N) := hide hN
            have hN' := hN
            clear heq hN0 hI hcl
            go_wp2_with fail
            go_quiet ((go_at_call 44; refine Calls.quiet_of_same (unhide HIdx _ _ _ (.inl (unhide HQ5)))))
            rw [hi2]
            go_wp2_with fail
            go_quiet (fail)
            go_wp2_with fail
            refine (unhide HRe _).mono ?_
            unfold eofV
            rintro e w2 ⟨rfl, hrs2, ht2, hbq⟩
            obtain ⟨d0, d1, d2, d3, d4, d5, ⟨l7, d6⟩, m2, m3, m4, m5, m6⟩ := hrs2.cells
            have hbl : ∀ j, w2.cell? ⟨bb, j, none⟩ = wr.cell? ⟨bb, j, none⟩ := fun j => World.cell?_of_block hbq
            have hcI2 : w2.cell? ⟨bb, r + I, none⟩ = some (.int .u8 (cl.toNat : Int)) := (hbl _).trans hcI
            have HS2 := hide hrs2
            have HT2 := hide ht2
            have HBl := hide hbl
            clear hrs2 ht2 hbl
            go_wp2_with fail
            have hn := unhide HN
            have hp := unhide HP
            rw [hn] at hp
            refine unhide HTr _ _ ⟨r, N, _, eofV ea, rfl, ?_, ⟨W, W, .nilIface, _, ((unhide HS2).set5 _).set6 _, .inl rfl⟩, ?_, hp.1, .inr (.inr ⟨rfl, by have := unhide HEq; omega, hp.2⟩)⟩
            · intro j hj
              rw [← (unhide HS).bytes j (by omega), ← unhide HBl (r + j)]
              apply World.cell?_of_block
              rw [set_other (Ne.symm hrbb), set_other (Ne.symm hrbb)]
            · exact ((((unhide HTc).drewN _).setCell (by simp) _ |>.trans ((unhide HT2).mono (by intro k hk; simp at hk ⊢; exact .inl hk))).setCell (by simp) _).setCell (by simp) _
    · have hQ6 : (4096 : Nat) ≠ Q := by omega
      rcases hfi with ⟨i, hi1, hi2, hi3, hi4⟩ | ⟨hi2, hi4⟩
      · have hq := unhide HQ
        obtain ⟨I, hI⟩ : ∃ I, i + sN = I := ⟨_, rfl⟩
        obtain ⟨Z, hZ⟩ : ∃ Z, r + I = Z := ⟨_, rfl⟩
        obtain ⟨L, hL⟩ : ∃ L, I + 1 = L := ⟨_, rfl⟩
        obtain ⟨R, hR⟩ : ∃ R, r + L = R := ⟨_, rfl⟩
        have j1 : (i : Int) + (sN : Int) = (I : Int) := by omega
        have j2 : (r : Int) + (I : Int) = (Z : Int) := by omega
        have j3 : (Z : Int) + 1 = (R : Int) := by omega
        have j4 : (I : Int) + 1 = (L : Int) := by omega
        have j5 : (r : Int) + (L : Int) = (R : Int) := by omega
        have j6 : (r : Int) ≤ (R : Int) := by omega
        have j7 : (R : Int) ≤ 4096 := by omega
        have j8 : (0 : Int) ≤ (r : Int) := by omega
        have j9 : R - r = L := by omega
        have j10 : (L : Int) - 1 = (I : Int) := by omega
        have j11 : (0 : Int) ≤ (I : Int) := by omega
        have j12 : (I : Int) < (L : Int) := by omega
        have j13 : (4096 : Nat) ≠ r := by omega
        have hcI : wr.cell? ⟨bb, r + I, none⟩ = some (.int .u8 (d.toNat : Int)) := by
          have := (unhide HS).bytes I (by omega)
          rw [this, bcell_byt, show p + I = p + sN + i by omega, hi3]
        have HP : Hid (R ≤ W ∧ r + L = R ∧ p + L ≤ s.size ∧ 1 ≤ L ∧ L ≤ W - r ∧ byt s (p + L - 1) = d ∧ NoD s d p (p + L - 1)) := hide ⟨by omega, hR, by omega, by omega, by omega, by rw [show p + L - 1 = p + sN + i by omega]; exact hi3, fun k h1 h2 => by
          by_cases hk : k < p + sN
          · exact unhide HNo k h1 hk
          · exact hi4 k (by omega) (by omega)⟩
        clear hi3 hi4 hq hI hZ hL hR
        go_wp2_with fail
        go_quiet ((go_at_call 44; refine Calls.quiet_of_same (unhide HIdx _ _ _ (.inr rfl))))
        rw [hi2]
        go_wp2_with fail
        go_quiet (fail)
        go_wp2_with fail
        obtain ⟨q1, q2, q3, q4, q5, q6, q7⟩ := unhide HP
        obtain ⟨t1, t2, t3⟩ := rl_end (unhide HS) q2 q1 q5 hrbb (unhide HTc) _ (wrap64 (d.toNat : Int)) (-1)
        exact unhide HTr _ _ ⟨r, L, 4096 - r, .nilIface, rfl, t2, ⟨R, W, e, _, t1, rd_adv (unhide HHe) q2 q1⟩, t3, q3, .inl ⟨rfl, q4, by omega, q6, q7⟩⟩
      · skip
        have HI4 := hide hi4
        clear hi4
        rcases unhide HHe with he | ⟨he, heq⟩
        · subst he
          by_cases hfull : W - r = 4096
          · skip
            have HR0 : Hid (r = 0 ∧ W = 4096) := hide ⟨by omega, by omega⟩
            obtain ⟨V, hV⟩ : ∃ V, W - r = V := ⟨_, rfl⟩
            have hV3 : decide ((4096 : Int) ≤ (V : Int)) = true := decide_eq_true (by omega)
            have HBuf : Hid (∀ a k, Calls Tryf.prog 45 #[.pointer (some ⟨rb, 0, none⟩)] (wr.drewN (a + k)) fun e w' => e = .returned (.int .i64 (V : Int)) ∧ ∃ m, w' = wr.drewN (a + m)) := hide (fun a k => by
              rw [← hV]
              exact (buffered_any rb sb bb s p r W .nilIface lb' (wr.drewN (a + k)) (unhide HS)).mono fun e w' ⟨h1, m, h2⟩ => ⟨h1, k + m, by rw [h2, World.drewN_drewN, Nat.add_assoc]⟩)
            have hF1 : wr.cell? ⟨1, 0, none⟩ = some (.iface 100 (.pointer (some fa))) := (unhide HTc).cell0 (unhide HF) (unhide HZ1)
            have hcL : wr.cell? ⟨bb, 4095, none⟩ = some (.int .u8 ((byt s (p + 4095)).toNat : Int)) := by
              have := (unhide HS).bytes 4095 (by omega)
              rw [(unhide HR0).1, Nat.zero_add] at this
              exact this
            have hrb1 : rb ≠ 1 := (unhide HZ1).1
            have HP : Hid (p + 4096 ≤ s.size ∧ NoD s d p (p + 4096)) := hide ⟨by omega, fun k h1 h2 => by
              have hq := unhide HQ
              have hr0 := unhide HR0
              by_cases hk : k < p + sN
              · exact unhide HNo k h1 hk
              · exact unhide HI4 k (by omega) (by omega)⟩
            generalize byt s (p + 4095) = cl at *
            clear hV hfull
            go_wp2_with fail
            go_quiet ((go_at_call 44; refine Calls.quiet_of_same (unhide HIdx _ _ _ (.inr rfl))))
            rw [hi2]
            go_wp2_with fail
            go_quiet ((go_at_call 45; exact unhide HBuf _ _))
            go_wp2_with fail
            obtain ⟨z0, z1⟩ := unhide HR0
            obtain ⟨t1, t2, t3⟩ := rl_end (L := 4096) (R := W) (unhide HS) (by omega) (Nat.le_refl _) (by omega) hrbb (unhide HTc) _ (wrap64 (cl.toNat : Int)) (-1)
            rw [z0] at t2
            exact unhide HTr _ _ ⟨0, 4096, 4096, fullV fa, rfl, t2, ⟨W, W, .nilIface, _, t1, .inl rfl⟩, t3, (unhide HP).1, .inr (.inl ⟨rfl, rfl, (unhide HP).2⟩)⟩
          · obtain ⟨V, hV⟩ : ∃ V, W - r = V := ⟨_, rfl⟩
            have hV1 : (W : Int) - (r : Int) = (V : Int) := by omega
            have hV2 : V < 4096 := by omega
            have hV3 : decide ((4096 : Int) ≤ (V : Int)) = false := decide_eq_false (by omega)
            have HV : Hid (W = r + V) := hide (by omega)
            have hE1 : wr.cell? ⟨0, 0, none⟩ = some (eofV ea) := (unhide HTc).cell0 (unhide HE) (unhide HZ)
            have HE1 := hide hE1
            have HBuf : Hid (∀ a k, Calls Tryf.prog 45 #[.pointer (some ⟨rb, 0, none⟩)] (wr.drewN (a + k)) fun e w' => e = .returned (.int .i64 (V : Int)) ∧ ∃ m, w' = wr.drewN (a + m)) := hide (fun a k => by
              rw [← hV]
              exact (buffered_any rb sb bb s p r W .nilIface lb' (wr.drewN (a + k)) (unhide HS)).mono fun e w' ⟨h1, m, h2⟩ => ⟨h1, k + m, by rw [h2, World.drewN_drewN, Nat.add_assoc]⟩)
            clear hE1 hV
            go_wp2_with fail
            go_quiet ((go_at_call 44; refine Calls.quiet_of_same (unhide HIdx _ _ _ (.inr rfl))))
            rw [hi2]
            go_wp2_with fail
            go_quiet ((go_at_call 45; exact unhide HBuf _ _))
            go_wp2_with fail
            go_quiet (fail)
            go_wp2_with fail
            refine (fill_any ea rb sb bb s p r W V lb' _ (by exact unhide HS) (unhide HV) hV2 hs (by exact unhide HE1) (unhide HZ)).mono ?_
            rintro e w2 ⟨rfl, ht2, W', e', hrs2, hcase⟩
            have HS2 := hide hrs2
            have HT2 := hide ((unhide HTc).trans ht2.of_drewN)
            clear ht2 hrs2
            go_wp2_with fail
            go_roundw
            case rel =>
              have hv := unhide HV
              have hq := unhide HQ
              have hno : NoD s d p (p + V) := fun k h1 h2 => by
                by_cases hk : k < p + sN
                · exact unhide HNo k h1 hk
                · exact unhide HI4 k (by omega) (by omega)
              refine ⟨V, 0, W', e', lb', rfl, rfl, unhide HS2, ?_, ?_, hno, unhide HT2⟩
              · rcases hcase with ⟨_, rfl, _⟩ | ⟨q1, rfl, rfl⟩
                · exact .inl rfl
                · exact .inr ⟨rfl, by omega⟩
              · rcases hcase with ⟨_, _, q⟩ | ⟨_, _, q⟩ <;> omega
            case measure =>
              have hv := unhide HV
              rw [(unhide HS).ms1]
              rcases hcase with ⟨_, rfl, q⟩ | ⟨q1, rfl, rfl⟩
              · rw [(unhide HS2).ms1]
                have := (unhide HS2).le
                omega
              · rw [(unhide HS2).ms0]
                omega
        · subst he
          have HP : Hid (p + (W - r) ≤ s.size ∧ NoD s d p (p + (W - r))) := hide ⟨by omega, fun k h1 h2 => by
            have hq := unhide HQ
            by_cases hk : k < p + sN
            · exact unhide HNo k h1 hk
            · exact unhide HI4 k (by omega) (by omega)⟩
          have HEq := hide heq
          unfold eofV at c4
          have j1 : (r : Int) ≤ (W : Int) := by omega
          have j2 : (0 : Int) ≤ (r : Int) := by omega
          obtain ⟨N, hN⟩ : ∃ N, W - r = N := ⟨_, rfl⟩
          have HRe : Hid (∀ k, Calls Tryf.prog 33 #[.pointer (some ⟨rb, 0, none⟩)] ((wr.drewN k).setCell ⟨rb, 2, none⟩ (.int .i64 W)) fun e w' => e = .returned (eofV ea) ∧ RSx rb sb bb s (p + N) W W .nilIface lb' w' ∧ Tch [rb] ((wr.drewN k).setCell ⟨rb, 2, none⟩ (.int .i64 W)) w' ∧ w'.heap[bb]? = wr.heap[bb]?) := hide (fun k => by
            have h' : RSx rb sb bb s p r W (eofV ea) lb' (wr.drewN k) := unhide HS
            refine (readErr_any rb sb bb s (p + N) W W ea lb' _ (h'.adv (by omega) (Nat.le_refl _))).mono ?_
            rintro e w' ⟨q1, q2, q3⟩
            obtain ⟨i', lrs', pr', bs', k1, k2, k3, _⟩ := h'
            have q4 : ((wr.drewN k).setCell ⟨rb, 2, none⟩ (.int .i64 W)).heap[bb]? = some (.cells bs'.toArray 5 (0, 0)) := (set_other (Ne.symm hrbb) _).trans k3
            exact ⟨q1, q2, q3, (q3.at q4 (by simp [Ne.symm hrbb])).trans k3.symm⟩)
          by_cases hN0 : N = 0
          · have j3 : W - r = 0 := by omega
            have HN0 : Hid (N = 0) := hide hN0
            have hd0 : (0 : Int) ≤ (r : Int) := by omega
            clear heq hN hN0
            by_cases hr4 : r = 4096
            · have hif2 : ((4096 : Nat) = r) = True := eq_true hr4.symm
              clear hr4
              go_wp2_with fail
              go_quiet ((go_at_call 44; refine Calls.quiet_of_same (unhide HIdx _ _ _ (.inr rfl))))
              rw [hi2]
              go_wp2_with fail
              go_quiet (fail)
              go_wp2_with fail
              refine (unhide HRe _).mono ?_
              unfold eofV
              rintro e w2 ⟨rfl, hrs2, ht2, _⟩
              have HS2 := hide hrs2
              have HT2 := hide ht2
              clear hrs2 ht2
              go_wp2_with fail
              have hn := unhide HN0
              have hp := unhide HP
              rw [j3] at hp
              have hs2 := unhide HS2
              rw [hn] at hs2
              exact unhide HTr _ _ ⟨0, 0, _, eofV ea, rfl, fun j hj => by omega, ⟨W, W, .nilIface, lb', hs2, .inl rfl⟩, ((unhide HTc).drewN _).setCell (by simp) _ |>.trans ((unhide HT2).mono (by intro k hk; simp at hk ⊢; exact .inl hk)), by omega, .inr (.inr ⟨rfl, by have := unhide HEq; omega, hp.2⟩)⟩
            · have hr5 : (4096 : Nat) ≠ r := by omega
              go_wp2_with fail
              go_quiet ((go_at_call 44; refine Calls.quiet_of_same (unhide HIdx _ _ _ (.inr rfl))))
              rw [hi2]
              go_wp2_with fail
              go_quiet (fail)
              go_wp2_with fail
              refine (unhide HRe _).mono ?_
              unfold eofV
              rintro e w2 ⟨rfl, hrs2, ht2, _⟩
              have HS2 := hide hrs2
              have HT2 := hide ht2
              clear hrs2 ht2
              go_wp2_with fail
              have hn := unhide HN0
              have hp := unhide HP
              rw [j3] at hp
              have hs2 := unhide HS2
              rw [hn] at hs2
              exact unhide HTr _ _ ⟨r, 0, _, eofV ea, rfl, fun j hj => by omega, ⟨W, W, .nilIface, lb', hs2, .inl rfl⟩, ((unhide HTc).drewN _).setCell (by simp) _ |>.trans ((unhide HT2).mono (by intro k hk; simp at hk ⊢; exact .inl hk)), by omega, .inr (.inr ⟨rfl, by have := unhide HEq; omega, hp.2⟩)⟩
          · have hr5 : (4096 : Nat) ≠ r := by omega
            obtain ⟨I, hI⟩ : ∃ I, I + 1 = N := ⟨N - 1, by omega⟩
            have i1 : (N : Int) - 1 = (I : Int) := by omega
            have i2 : (0 : Int) ≤ (I : Int) := by omega
            have i3 : (I : Int) < (N : Int) := by omega
            obtain ⟨cl, hcl⟩ : ∃ cl, byt s (p + I) = cl := ⟨_, rfl⟩
            have hcI : wr.cell? ⟨bb, r + I, none⟩ = some (.int .u8 (cl.toNat : Int)) := by
              have := (unhide HS).bytes I (by omega)
              rw [this, bcell_byt, hcl]
            have HCI := hide hcI
            have HN : Hid (W - r = N) := hide hN
            have hN' := hN
            clear heq hN0 hI hcl
            go_wp2_with fail
            go_quiet ((go_at_call 44; refine Calls.quiet_of_same (unhide HIdx _ _ _ (.inr rfl))))
            rw [hi2]
            go_wp2_with fail
            go_quiet (fail)
            go_wp2_with fail
            refine (unhide HRe _).mono ?_
            unfold eofV
            rintro e w2 ⟨rfl, hrs2, ht2, hbq⟩
            obtain ⟨d0, d1, d2, d3, d4, d5, ⟨l7, d6⟩, m2, m3, m4, m5, m6⟩ := hrs2.cells
            have hbl : ∀ j, w2.cell? ⟨bb, j, none⟩ = wr.cell? ⟨bb, j, none⟩ := fun j => World.cell?_of_block hbq
            have hcI2 : w2.cell? ⟨bb, r + I, none⟩ = some (.int .u8 (cl.toNat : Int)) := (hbl _).trans hcI
            have HS2 := hide hrs2
            have HT2 := hide ht2
            have HBl := hide hbl
            clear hrs2 ht2 hbl
            go_wp2_with fail
            have hn := unhide HN
            have hp := unhide HP
            rw [hn] at hp
            refine unhide HTr _ _ ⟨r, N, _, eofV ea, rfl, ?_, ⟨W, W, .nilIface, _, ((unhide HS2).set5 _).set6 _, .inl rfl⟩, ?_, hp.1, .inr (.inr ⟨rfl, by have := unhide HEq; omega, hp.2⟩)⟩
            · intro j hj
              rw [← (unhide HS).bytes j (by omega), ← unhide HBl (r + j)]
              apply World.cell?_of_block
              rw [set_other (Ne.symm hrbb), set_other (Ne.symm hrbb)]
            · exact ((((unhide HTc).drewN _).setCell (by simp) _ |>.trans ((unhide HT2).mono (by intro k hk; simp at hk ⊢; exact .inl hk))).setCell (by simp) _).setCell (by simp) _
end Go.Proofs.Qxb6614301aFmt
