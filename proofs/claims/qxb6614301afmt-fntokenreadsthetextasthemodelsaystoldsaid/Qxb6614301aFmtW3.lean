import Derived.Test.Qxb6614301aFmtW2
namespace Go.Proofs.Qxb6614301aFmt
open Go.RowKit

/-- A reader at place p of s. -/
def RD (ea : Addr) (rb sb bb : Nat) (s : ByteArray) (p : Nat) (w : World) : Prop :=
  ∃ r W e lb, RSx rb sb bb s p r W e lb w ∧ (e = .nilIface ∨ (e = eofV ea ∧ p + (W - r) = s.size))
/-- .. that has just read a byte. -/
def RU (ea : Addr) (rb sb bb : Nat) (s : ByteArray) (p : Nat) (w : World) : Prop :=
  ∃ r W e lb, RSx rb sb bb s p r W e lb w ∧ (e = .nilIface ∨ (e = eofV ea ∧ p + (W - r) = s.size)) ∧ 1 ≤ r ∧ 1 ≤ p ∧ lb = ((s.data.toList.getD (p - 1) 0).toNat : Int)
theorem RU.rd {ea : Addr} {rb sb bb : Nat} {s : ByteArray} {p : Nat} {w : World} (h : RU ea rb sb bb s p w) : RD ea rb sb bb s p w := by
  obtain ⟨r, W, e, lb, h1, h2, _⟩ := h
  exact ⟨r, W, e, lb, h1, h2⟩

/-- One more fill is wanted. -/
def stg (rb : Nat) (w : World) : Nat :=
  match w.cell? ⟨rb, 2, none⟩, w.cell? ⟨rb, 3, none⟩, w.cell? ⟨rb, 4, none⟩ with
  | some (.int .i64 a), some (.int .i64 b), some .nilIface => if a = b then 1 else 0
  | _, _, _ => 0
theorem RSx.stg1 {rb sb bb : Nat} {s : ByteArray} {p r : Nat} {lb : Int} {w : World} (h : RSx rb sb bb s p r r .nilIface lb w) : stg rb w = 1 := by
  obtain ⟨_, _, c2, c3, c4, _⟩ := h.cells
  unfold stg
  rw [c2, c3, c4]
  exact if_pos rfl
theorem RSx.stg0 {rb sb bb : Nat} {s : ByteArray} {p r W : Nat} {lb : Int} {w : World} (h : RSx rb sb bb s p r W .nilIface lb w) (hn : r ≠ W) : stg rb w = 0 := by
  obtain ⟨_, _, c2, c3, c4, _⟩ := h.cells
  unfold stg
  rw [c2, c3, c4]
  exact if_neg (by omega)
theorem RSx.stgE {ea : Addr} {rb sb bb : Nat} {s : ByteArray} {p r W : Nat} {lb : Int} {w : World} (h : RSx rb sb bb s p r W (eofV ea) lb w) : stg rb w = 0 := by
  obtain ⟨_, _, c2, c3, c4, _⟩ := h.cells
  unfold stg
  rw [c2, c3, c4]
  rfl
theorem RSx.set6 {rb sb bb : Nat} {s : ByteArray} {p r W : Nat} {e : Value} {lb : Int} {w : World} (h : RSx rb sb bb s p r W e lb w) (x : Int) : RSx rb sb bb s p r W e lb (w.setCell ⟨rb, 6, none⟩ (.int .i64 x)) := by
  obtain ⟨i, lrs, pr, bs, h1, h2, h3, h4⟩ := h
  have hrs : sb ≠ rb := fun e => by subst e; rw [h1] at h2; cases h2
  have hrb : bb ≠ rb := fun e => by subst e; rw [h1] at h3; cases h3
  exact ⟨i, x, pr, bs, set_block h1 _, (set_other hrs _).trans h2, (set_other hrb _).trans h3, h4⟩
theorem RSx.drew {rb sb bb : Nat} {s : ByteArray} {p r W : Nat} {e : Value} {lb : Int} {w : World} (h : RSx rb sb bb s p r W e lb w) : RSx rb sb bb s p r W e lb w.drew := h
theorem RSx.byte {rb sb bb : Nat} {s : ByteArray} {p r W : Nat} {e : Value} {lb : Int} {w : World} (h : RSx rb sb bb s p r W e lb w) (hr : r < W) : p < s.size ∧ w.cell? ⟨bb, r, none⟩ = some (bcell s p) := by
  obtain ⟨i, lrs, pr, bs, h1, h2, h3, h4, h5, h6, h7, h8, h9⟩ := h
  refine ⟨by omega, ?_⟩
  have := h9 r (Nat.le_refl _) hr
  rw [Nat.sub_self, Nat.add_zero] at this
  simp [World.cell?, h3, this]
theorem RSx.le {rb sb bb : Nat} {s : ByteArray} {p r W : Nat} {e : Value} {lb : Int} {w : World} (h : RSx rb sb bb s p r W e lb w) : r ≤ W ∧ W ≤ 4096 ∧ p + (W - r) ≤ s.size := by
  obtain ⟨i, lrs, pr, bs, h1, h2, h3, h4, h5, h6, h7, h8, h9⟩ := h
  exact ⟨h5, h6, by omega⟩
theorem RSx.step {rb sb bb : Nat} {s : ByteArray} {p r W : Nat} {e : Value} {lb : Int} {w : World} (h : RSx rb sb bb s p r W e lb w) (hr : r < W) (x : Int) : RSx rb sb bb s (p + 1) (r + 1) W e x ((w.setCell ⟨rb, 2, none⟩ (.int .i64 (r + 1 : Nat))).setCell ⟨rb, 5, none⟩ (.int .i64 x)) := by
  obtain ⟨i, lrs, pr, bs, h1, h2, h3, h4, h5, h6, h7, h8, h9⟩ := h
  have hrs : sb ≠ rb := fun e => by subst e; rw [h1] at h2; cases h2
  have hrb : bb ≠ rb := fun e => by subst e; rw [h1] at h3; cases h3
  refine ⟨i, lrs, pr, bs, set_block (set_block h1 _) _, (set_other hrs _).trans ((set_other hrs _).trans h2), (set_other hrb _).trans ((set_other hrb _).trans h3), h4, by omega, h6, by omega, h8, ?_⟩
  intro k hk hk2
  rw [h9 k (by omega) hk2]
  congr 2
  omega

theorem RSx.step' {rb sb bb : Nat} {s : ByteArray} {p r W M : Nat} {e : Value} {lb : Int} {w : World} (h : RSx rb sb bb s p r W e lb w) (hr : r < W) (hM : r + 1 = M) (x : Int) : RSx rb sb bb s (p + 1) M W e x ((w.setCell ⟨rb, 2, none⟩ (.int .i64 M)).setCell ⟨rb, 5, none⟩ (.int .i64 x)) := by
  subst hM
  exact h.step hr x
theorem w64_u8 (c : UInt8) : wrap64 (c.toNat : Int) = c.toNat := by
  have := c.toNat_lt
  unfold wrap64
  omega
theorem u8_wrap (c : UInt8) : IntKind.u8.wrap (c.toNat : Int) = c.toNat := by
  have := c.toNat_lt
  simp [IntKind.wrap, IntKind.bits, IntKind.signed]
  omega
/-- What ReadByte leaves. -/
def RbPost (ea : Addr) (rb sb bb : Nat) (s : ByteArray) (p : Nat) (w : World) (e : Ending) (w' : World) : Prop :=
  (p < s.size ∧ e = .returned (.tuple #[bcell s p, .nilIface]) ∧ RU ea rb sb bb s (p + 1) w' ∧ Tch [rb, sb, bb] w w') ∨
  (p = s.size ∧ e = .returned (.tuple #[.int .u8 0, eofV ea]) ∧ RD ea rb sb bb s p w' ∧ Tch [rb, sb, bb] w w')

set_option maxRecDepth 100000 in
set_option maxHeartbeats 2000000 in
theorem readByte_any (ea : Addr) (rb sb bb : Nat) (s : ByteArray) (p : Nat) (w : World) (h : RD ea rb sb bb s p w) (hs : s.size ≤ 2097152) (hE : w.cell? ⟨0, 0, none⟩ = some (eofV ea)) (hz : rb ≠ 0 ∧ sb ≠ 0 ∧ bb ≠ 0) :
    Calls Tryf.prog 20 #[.pointer (some ⟨rb, 0, none⟩)] w (RbPost ea rb sb bb s p w) := by
  generalize hT : RbPost ea rb sb bb s p w = T
  have hTr : ∀ (e : Ending) (w' : World), RbPost ea rb sb bb s p w e w' → T e w' := fun e w' h => by rw [← hT]; exact h
  have HTr := hide hTr
  obtain ⟨r0, W0, e0, lb, h, he⟩ := h
  obtain ⟨c0, c1, c2, c3, c4, c5, ⟨l6, c6⟩, f2, f3, f4, f5, f6⟩ := h.cells
  have HI : Hid (RSx rb sb bb s p r0 W0 e0 lb (w.setCell ⟨rb, 6, none⟩ (.int .i64 (-1))) ∧ (e0 = .nilIface ∨ (e0 = eofV ea ∧ p + (W0 - r0) = s.size)) ∧ Tch [rb, sb, bb] w (w.setCell ⟨rb, 6, none⟩ (.int .i64 (-1)))) := hide ⟨h.set6 _, he, (Tch.refl _ w).setCell (by simp) _⟩
  have HE := hide hE
  have HZ := hide hz
  clear h he hT hTr hE hz c0 c1 c2 c3 c4 c5 f2 f3 f4 f5
  go_enter Tryf.func20, Tryf.ntmps20
  go_wp2_with fail
  go_loopw [] (fun wr => ∃ r W e lb', RSx rb sb bb s p r W e lb' wr ∧ (e = .nilIface ∨ (e = eofV ea ∧ p + (W - r) = s.size)) ∧ Tch [rb, sb, bb] w wr) (fun wr => stg rb wr)
  case atStart => exact ⟨_, _, _, _, unhide HI⟩
  case round =>
    obtain ⟨r, W, e, lb', h, he, ht⟩ := hrel
    clear HI c6 f6
    obtain ⟨c0, c1, c2, c3, c4, c5, ⟨l7, c6⟩, f2, f3, f4, f5, f6⟩ := h.cells
    obtain ⟨g1, g2, g3⟩ := h.le
    have HS := hide h
    have HTc := hide ht
    by_cases hrW : r = W
    · subst hrW
      rcases he with rfl | ⟨rfl, heq⟩
      · clear h ht
        have hE1 : wr.cell? ⟨0, 0, none⟩ = some (eofV ea) := (unhide HTc).cell0 (unhide HE) (unhide HZ)
        have HE1 := hide hE1
        clear hE1
        go_wp2_with fail
        go_quiet (fail)
        go_wp2_with fail
        refine (fill_any ea rb sb bb s p r r 0 lb' (wr.drewN nq) (by exact unhide HS) (by omega) (by omega) hs (by exact unhide HE1) (unhide HZ)).mono ?_
        rintro e w2 ⟨rfl, ht2, W', e', hrs2, hcase⟩
        have HS2 := hide hrs2
        have HT2 := hide ((unhide HTc).trans ht2.of_drewN)
        clear ht2 hrs2
        go_wp2_with fail
        go_roundw
        case rel =>
          refine ⟨0, W', e', lb', unhide HS2, ?_, unhide HT2⟩
          rcases hcase with ⟨_, rfl, _⟩ | ⟨q1, rfl, rfl⟩
          · exact .inl rfl
          · exact .inr ⟨rfl, by omega⟩
        case measure =>
          rw [(unhide HS).stg1]
          rcases hcase with ⟨_, rfl, q⟩ | ⟨q1, rfl, rfl⟩
          · rw [(unhide HS2).stg0 (by omega)]; exact Nat.zero_lt_one
          · rw [(unhide HS2).stgE]; exact Nat.zero_lt_one
      · unfold eofV at c4
        clear h ht
        go_wp2_with fail
        go_quiet (fail)
        go_wp2_with fail
        refine (readErr_any rb sb bb s p r r ea lb' (wr.drewN nq) (by exact unhide HS)).mono ?_
        rintro e w2 ⟨rfl, hrs2, ht2⟩
        go_wp2_with fail
        exact unhide HTr _ _ (.inr ⟨by omega, rfl, ⟨r, r, .nilIface, lb', hrs2, .inl rfl⟩, (unhide HTc).trans (ht2.of_drewN.mono (by intro k hk; simp at hk ⊢; exact .inl hk))⟩)
    · have hlt : r < W := by omega
      obtain ⟨hp, hb⟩ := h.byte hlt
      have hd : ((r : Int) == (W : Int)) = false := by rw [beq_eq_false_iff_ne]; omega
      obtain ⟨c, hc⟩ : ∃ c, s.data.toList.getD p 0 = c := ⟨_, rfl⟩
      unfold bcell at hb
      rw [hc] at hb
      have HC := hide hc
      clear hc
      have hri : (0 : Int) ≤ (r : Int) := by omega
      have hri2 : (r : Int) < 4096 := by omega
      obtain ⟨M, hM⟩ : ∃ M, r + 1 = M := ⟨_, rfl⟩
      have hM1 : (r : Int) + 1 = (M : Int) := by omega
      have hM2 : M ≤ 4096 := by omega
      have HM := hide hM
      have HHe := hide he
      clear h ht hM he
      go_wp2_with fail
      go_quiet (fail)
      go_wp2_with fail
      go_quiet (fail)
      go_wp2_with fail
      refine unhide HTr _ _ (.inl ⟨hp, by unfold bcell; rw [unhide HC]; rfl, ?_, ?_⟩)
      · refine ⟨M, W, e, _, RSx.step' (by exact unhide HS) hlt (unhide HM) _, ?_, ?_, ?_, ?_⟩
        · have := unhide HM
          rcases unhide HHe with h | ⟨h, h'⟩
          · exact .inl h
          · exact .inr ⟨h, by omega⟩
        · have := unhide HM; omega
        · omega
        · rw [Nat.add_sub_cancel, unhide HC]
          exact w64_u8 c
      · refine Tch.setCell (Tch.setCell ?_ (by simp) _) (by simp) _
        exact (unhide HTc).drewN _

theorem RSx.back {rb sb bb : Nat} {s : ByteArray} {p r W M : Nat} {e : Value} {lb : Int} {w : World} (h : RSx rb sb bb s (p + 1) r W e lb w) (hM : M + 1 = r) (v : Value) (hv : v = bcell s p) :
    RSx rb sb bb s p M W e (-1) ((((w.setCell ⟨rb, 2, none⟩ (.int .i64 M)).setCell ⟨bb, M, none⟩ v).setCell ⟨rb, 5, none⟩ (.int .i64 (-1))).setCell ⟨rb, 6, none⟩ (.int .i64 (-1))) := by
  obtain ⟨i, lrs, pr, bs, h1, h2, h3, h4, h5, h6, h7, h8, h9⟩ := h
  have hrs : sb ≠ rb := fun e => by subst e; rw [h1] at h2; cases h2
  have hrb : bb ≠ rb := fun e => by subst e; rw [h1] at h3; cases h3
  have hsb : sb ≠ bb := fun e => by subst e; rw [h2] at h3; cases h3
  have a1 : (w.setCell ⟨rb, 2, none⟩ (.int .i64 M)).heap[rb]? = _ := set_block h1 _
  have a3 : (w.setCell ⟨rb, 2, none⟩ (.int .i64 M)).heap[bb]? = _ := (set_other hrb _).trans h3
  have a2 : (w.setCell ⟨rb, 2, none⟩ (.int .i64 M)).heap[sb]? = _ := (set_other hrs _).trans h2
  refine ⟨i, -1, pr, bs.set M v, set_block (set_block ((set_other (Ne.symm hrb) _).trans a1) _) _, (set_other hrs _).trans ((set_other hrs _).trans ((set_other hsb _).trans a2)), ?_, by simpa using h4, by omega, h6, by omega, h8, ?_⟩
  · have := (set_other hrb (.int .i64 (-1)) (o := 6)).trans ((set_other hrb (.int .i64 (-1)) (o := 5)).trans (set_block (o := M) a3 v))
    rw [this]
    simp
  · intro k hk hk2
    by_cases hkm : k = M
    · subst hkm
      rw [List.getElem?_set_self (by omega), hv, Nat.sub_self, Nat.add_zero]
    · rw [List.getElem?_set_ne (by omega), h9 k (by omega) hk2]
      congr 2
      omega

set_option maxRecDepth 100000 in
set_option maxHeartbeats 2000000 in
theorem unreadByte_any (ea : Addr) (rb sb bb : Nat) (s : ByteArray) (p : Nat) (w : World) (h : RU ea rb sb bb s (p + 1) w) :
    Calls Tryf.prog 31 #[.pointer (some ⟨rb, 0, none⟩)] w fun e w' => e = .returned .nilIface ∧ RD ea rb sb bb s p w' ∧ Tch [rb, sb, bb] w w' := by
  obtain ⟨r, W, e, lb, h, he, hr, hp, hlb⟩ := h
  obtain ⟨c0, c1, c2, c3, c4, c5, ⟨l6, c6⟩, f2, f3, f4, f5, f6⟩ := h.cells
  obtain ⟨g1, g2, g3⟩ := h.le
  rw [Nat.add_sub_cancel] at hlb
  obtain ⟨c, hc⟩ : ∃ c, s.data.toList.getD p 0 = c := ⟨_, rfl⟩
  rw [hc] at hlb
  have hbc : bcell s p = .int .u8 (c.toNat : Int) := by unfold bcell; rw [hc]
  subst hlb
  have hcl := c.toNat_lt
  obtain ⟨M, hM⟩ : ∃ M, M + 1 = r := ⟨r - 1, by omega⟩
  obtain ⟨bv, hbv, hfz⟩ : ∃ bv, w.cell? ⟨bb, M, none⟩ = some bv ∧ w.frozen? ⟨bb, M, none⟩ = false := by
    obtain ⟨i, lrs, pr, bs, h1, h2, h3, h4, _⟩ := h
    exact ⟨bs[M]'(by omega), by simp [World.cell?, h3, List.getElem?_eq_getElem (by omega : M < bs.length)], by simp [World.frozen?, h3]⟩
  have hne : rb ≠ bb := by
    obtain ⟨i, lrs, pr, bs, h1, h2, h3, _⟩ := h
    intro e
    subst e
    rw [h1] at h3
    cases h3
  have hM1 : (r : Int) - 1 = (M : Int) := by omega
  have hMi : (M : Int) < 4096 := by omega
  have hMi0 : (0 : Int) ≤ (M : Int) := by omega
  have hr0 : decide ((0 : Int) < (r : Int)) = true := decide_eq_true (by omega)
  have hr00 : ((r : Int) == 0) = false := by rw [beq_eq_false_iff_ne]; omega
  have hl0 : decide ((c.toNat : Int) < 0) = false := decide_eq_false (by omega)
  have HS := hide h
  have HHe := hide he
  have HM := hide hM
  have HBc := hide hbc
  clear h he hM hbc hc
  go_enter Tryf.func31, Tryf.ntmps31
  go_wp2_with fail
  obtain ⟨w1, hw1⟩ : ∃ w1, w.setCell ⟨rb, 2, none⟩ (.int .i64 M) = w1 := ⟨_, rfl⟩
  rw [hw1]
  obtain ⟨k0, k2, k5, k6, l5, l6', m0, m1⟩ : w1.cell? ⟨rb, 0, none⟩ = some (.slice (some ⟨bb, 0, none⟩) 4096 4096) ∧ w1.cell? ⟨rb, 2, none⟩ = some (.int .i64 M) ∧ w1.cell? ⟨rb, 5, none⟩ = some (.int .i64 (c.toNat : Int)) ∧ (∃ l : Int, w1.cell? ⟨rb, 6, none⟩ = some (.int .i64 l)) ∧ w1.frozen? ⟨rb, 5, none⟩ = false ∧ w1.frozen? ⟨rb, 6, none⟩ = false ∧ w1.cell? ⟨bb, M, none⟩ = some bv ∧ w1.frozen? ⟨bb, M, none⟩ = false := by
    obtain ⟨i, lrs, pr, bs, h1, h2, h3, _⟩ := unhide HS
    have q := set_block (o := 2) h1 (.int .i64 M)
    have q4 : w.heap[bb]? = w1.heap[bb]? := by rw [← hw1]; exact (set_other (Ne.symm hne) _).symm
    rw [hw1] at q
    refine ⟨by simp [World.cell?, q], by simp [World.cell?, q], by simp [World.cell?, q], ⟨lrs, by simp [World.cell?, q]⟩, by simp [World.frozen?, q], by simp [World.frozen?, q], ?_, ?_⟩
    · rw [← hbv]; exact World.cell?_of_block q4.symm
    · rw [← hfz]; exact World.frozen?_of_block q4.symm
  obtain ⟨l7, k6⟩ := k6
  have HW1 := hide hw1
  have hwr := u8_wrap c
  have HK : Hid (∀ v, (w1.setCell ⟨bb, M, none⟩ v).drew.cell? ⟨rb, 0, none⟩ = some (.slice (some ⟨bb, 0, none⟩) 4096 4096) ∧ (w1.setCell ⟨bb, M, none⟩ v).drew.cell? ⟨rb, 2, none⟩ = some (.int .i64 M) ∧ (w1.setCell ⟨bb, M, none⟩ v).drew.cell? ⟨rb, 5, none⟩ = some (.int .i64 (c.toNat : Int))) := hide (fun v => ⟨(World.cell?_of_block (set_other hne v)).trans k0, (World.cell?_of_block (set_other hne v)).trans k2, (World.cell?_of_block (set_other hne v)).trans k5⟩)
  have HK6 : Hid (∀ v, (w1.setCell ⟨bb, M, none⟩ v).drew.cell? ⟨rb, 6, none⟩ = some (.int .i64 l7) ∧ (w1.setCell ⟨bb, M, none⟩ v).drew.frozen? ⟨rb, 5, none⟩ = false ∧ (w1.setCell ⟨bb, M, none⟩ v).drew.frozen? ⟨rb, 6, none⟩ = false) := hide (fun v => ⟨(World.cell?_of_block (set_other hne v)).trans k6, (World.frozen?_of_block (set_other hne v)).trans l5, (World.frozen?_of_block (set_other hne v)).trans l6'⟩)
  clear hw1 c0 c1 c2 c3 c4 c5 c6 f2 f3 f4 f5 f6 hbv hfz
  go_region_held3 (fun w' => w'.cell? ⟨rb, 0, none⟩ = some (.slice (some ⟨bb, 0, none⟩) 4096 4096) ∧ w'.cell? ⟨rb, 2, none⟩ = some (.int .i64 M) ∧ w'.cell? ⟨rb, 5, none⟩ = some (.int .i64 (c.toNat : Int))) (first | exact ⟨k0, k2, k5⟩ | exact unhide HK (.int .u8 (c.toNat : Int)) | go_keep) (fail)
  obtain ⟨n5, n6, n7⟩ := unhide HK6 (.int .u8 (c.toNat : Int))
  obtain ⟨n0, n2, n3⟩ := unhide HK (.int .u8 (c.toNat : Int))
  go_wp2_with fail
  go_ret
  have hrs := RSx.back (unhide HS) (unhide HM) (.int .u8 (c.toNat : Int)) (unhide HBc).symm
  rw [unhide HW1] at hrs
  have hm := unhide HM
  refine ⟨rfl, ⟨M, W, e, -1, hrs, ?_⟩, ?_⟩
  · rcases unhide HHe with h | ⟨h, h'⟩
    · exact .inl h
    · exact .inr ⟨h, by omega⟩
  · rw [← unhide HW1]
    exact (((((Tch.refl _ w).setCell (by simp) _).setCell (by simp) _).setCell (by simp) _).setCell (by simp) _).drew
end Go.Proofs.Qxb6614301aFmt
