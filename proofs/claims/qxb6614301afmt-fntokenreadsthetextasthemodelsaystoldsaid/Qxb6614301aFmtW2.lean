import Derived.Test.Qxb6614301aFmtW1
namespace Go.Proofs.Qxb6614301aFmt
open Go.RowKit

/-- A reader, its numbers told: it stands at place p of s; of the buffer the places r up to W hold the bytes from p on. -/
def RSx (rb sb bb : Nat) (s : ByteArray) (p r W : Nat) (e : Value) (lb : Int) (w : World) : Prop :=
  ∃ (i : Nat) (lrs pr : Int) (bs : List Value),
    w.heap[rb]? = some (.cells #[.slice (some ⟨bb, 0, none⟩) 4096 4096, .iface 40 (.pointer (some ⟨sb, 0, none⟩)), .int .i64 r, .int .i64 W, e, .int .i64 lb, .int .i64 lrs] 70 (0, 0)) ∧
    w.heap[sb]? = some (.cells #[.string s, .int .i64 i, .int .i64 pr] 52 (0, 0)) ∧
    w.heap[bb]? = some (.cells bs.toArray 5 (0, 0)) ∧ bs.length = 4096 ∧
    r ≤ W ∧ W ≤ 4096 ∧ i + r = p + W ∧ i ≤ s.size ∧ (∀ k, r ≤ k → k < W → bs[k]? = some (bcell s (p + (k - r))))

theorem RSx.cells {rb sb bb : Nat} {s : ByteArray} {p r W : Nat} {e : Value} {lb : Int} {w : World} (h : RSx rb sb bb s p r W e lb w) :
    w.cell? ⟨rb, 0, none⟩ = some (.slice (some ⟨bb, 0, none⟩) 4096 4096) ∧ w.cell? ⟨rb, 1, none⟩ = some (.iface 40 (.pointer (some ⟨sb, 0, none⟩))) ∧ w.cell? ⟨rb, 2, none⟩ = some (.int .i64 r) ∧ w.cell? ⟨rb, 3, none⟩ = some (.int .i64 W) ∧
    w.cell? ⟨rb, 4, none⟩ = some e ∧ w.cell? ⟨rb, 5, none⟩ = some (.int .i64 lb) ∧ (∃ l : Int, w.cell? ⟨rb, 6, none⟩ = some (.int .i64 l)) ∧
    w.frozen? ⟨rb, 2, none⟩ = false ∧ w.frozen? ⟨rb, 3, none⟩ = false ∧ w.frozen? ⟨rb, 4, none⟩ = false ∧ w.frozen? ⟨rb, 5, none⟩ = false ∧ w.frozen? ⟨rb, 6, none⟩ = false := by
  obtain ⟨i, lrs, pr, bs, h, _⟩ := h
  exact ⟨by simp [World.cell?, h], by simp [World.cell?, h], by simp [World.cell?, h], by simp [World.cell?, h], by simp [World.cell?, h], by simp [World.cell?, h], ⟨lrs, by simp [World.cell?, h]⟩, by simp [World.frozen?, h], by simp [World.frozen?, h], by simp [World.frozen?, h], by simp [World.frozen?, h], by simp [World.frozen?, h]⟩

theorem method_read (a : Addr) (w : World) : (method 237 40 (.pointer (some a)) "Read").run Tryf.prog w = .ok (89, .pointer (some a)) w := by kernel_rfl

set_option maxRecDepth 100000 in
theorem readErr_any (rb sb bb : Nat) (s : ByteArray) (p r W : Nat) (ea : Addr) (lb : Int) (w : World) (h : RSx rb sb bb s p r W (eofV ea) lb w) :
    Calls Tryf.prog 33 #[.pointer (some ⟨rb, 0, none⟩)] w fun e w' => e = .returned (eofV ea) ∧ RSx rb sb bb s p r W .nilIface lb w' ∧ Tch [rb] w w' := by
  obtain ⟨c0, c1, c2, c3, c4, c5, ⟨l6, c6⟩, f2, f3, f4, f5, f6⟩ := h.cells
  have HS := hide h
  clear h
  unfold eofV at c4 ⊢
  go_enter Tryf.func33, Tryf.ntmps33
  go_wp2_with fail
  go_ret
  refine ⟨rfl, ?_, (Tch.refl _ w).setCell (by simp) _⟩
  obtain ⟨i, lrs, pr, bs, h1, h2, h3, h4⟩ := unhide HS
  have hrs : sb ≠ rb := fun e => by subst e; rw [h1] at h2; cases h2
  have hrb : bb ≠ rb := fun e => by subst e; rw [h1] at h3; cases h3
  exact ⟨i, lrs, pr, bs, set_block h1 _, (set_other hrs _).trans h2, (set_other hrb _).trans h3, h4⟩

theorem fill_eof_rs {ea : Addr} {rb sb bb : Nat} {s : ByteArray} {p W : Nat} {lb : Int} {w : World} (h : RSx rb sb bb s p 0 W .nilIface lb w) (k : Nat) :
    RSx rb sb bb s p 0 W (eofV ea) lb (((w.drewN k).setCell ⟨rb, 3, none⟩ (.int .i64 W)).setCell ⟨rb, 4, none⟩ (.iface 100 (.pointer (some ea)))) := by
  obtain ⟨i, lrs, pr, bs, h1, h2, h3, h4⟩ := h
  have hrs : sb ≠ rb := fun e => by subst e; rw [h1] at h2; cases h2
  have hrb : bb ≠ rb := fun e => by subst e; rw [h1] at h3; cases h3
  have h1' : (w.drewN k).heap[rb]? = _ := h1
  exact ⟨i, lrs, pr, bs, set_block (set_block h1' _) _, (set_other hrs _).trans ((set_other hrs _).trans h2), (set_other hrb _).trans ((set_other hrb _).trans h3), h4⟩

/-- What the read of some bytes leaves. -/
def FillSome (rb sb bb : Nat) (s : ByteArray) (p W n : Nat) (lb lrs : Int) (bs : List Value) (w w' : World) : Prop :=
  w'.heap[rb]? = some (.cells #[.slice (some ⟨bb, 0, none⟩) 4096 4096, .iface 40 (.pointer (some ⟨sb, 0, none⟩)), .int .i64 (0 : Nat), .int .i64 W, .nilIface, .int .i64 lb, .int .i64 lrs] 70 (0, 0)) ∧
  (∃ pr : Int, w'.heap[sb]? = some (.cells #[.string s, .int .i64 (p + W + n : Nat), .int .i64 pr] 52 (0, 0))) ∧
  w'.heap[bb]? = some (.cells (splice bs W (sbytes (s.extract (p + W) s.size) n)).toArray 5 (0, 0)) ∧ Tch [sb, bb] w w'
theorem FillSome.cells {rb sb bb : Nat} {s : ByteArray} {p W n : Nat} {lb lrs : Int} {bs : List Value} {w w' : World} (h : FillSome rb sb bb s p W n lb lrs bs w w') :
    w'.cell? ⟨rb, 0, none⟩ = some (.slice (some ⟨bb, 0, none⟩) 4096 4096) ∧ w'.cell? ⟨rb, 1, none⟩ = some (.iface 40 (.pointer (some ⟨sb, 0, none⟩))) ∧ w'.cell? ⟨rb, 3, none⟩ = some (.int .i64 W) ∧ w'.cell? ⟨rb, 4, none⟩ = some .nilIface ∧ w'.frozen? ⟨rb, 3, none⟩ = false ∧ w'.frozen? ⟨rb, 4, none⟩ = false := by
  have h1 := h.1
  exact ⟨by simp [World.cell?, h1], by simp [World.cell?, h1], by simp [World.cell?, h1], by simp [World.cell?, h1], by simp [World.frozen?, h1], by simp [World.frozen?, h1]⟩

theorem sbytes_get (s : ByteArray) (q n j : Nat) (hj : j < n) (hn : n ≤ s.size - q) (hq : q ≤ s.size) : (sbytes (s.extract q s.size) n)[j]? = some (bcell s (q + j)) := by
  have hl : s.data.toList.length = s.size := by simp
  have e1 : (s.extract q s.size).data.toList = s.data.toList.drop q := by
    simp [ByteArray.data_extract]
    exact List.take_of_length_le (by simp)
  unfold sbytes bcell
  rw [e1, List.getElem?_map, List.getElem?_take, if_pos hj, List.getElem?_drop, List.getElem?_eq_getElem (by omega : q + j < s.data.toList.length), List.getD, List.getElem?_eq_getElem (by omega : q + j < s.data.toList.length)]
  rfl
theorem splice_low {L cs : List Value} {off k : Nat} (h : k < off) (hl : off ≤ L.length) : (splice L off cs)[k]? = L[k]? := by
  unfold splice
  rw [List.getElem?_append_left (by simp; omega), List.getElem?_take, if_pos h]
theorem splice_mid {L cs : List Value} {off k : Nat} (h : off ≤ k) (hk : k < off + cs.length) (hl : off ≤ L.length) : (splice L off cs)[k]? = cs[k - off]? := by
  unfold splice
  have e : (L.take off).length = off := by simp; omega
  rw [List.getElem?_append_right (by omega), e, List.getElem?_append_left (by omega)]
theorem fill_some_rs {rb sb bb : Nat} {s : ByteArray} {p W n M : Nat} {lb lrs : Int} {bs : List Value} {w w' : World} (h : FillSome rb sb bb s p W n lb lrs bs w w') (hM : W + n = M) (hn : n ≤ 4096 - W) (hn2 : n ≤ s.size - (p + W)) (hbl : bs.length = 4096)
    (h9 : ∀ k, 0 ≤ k → k < W → bs[k]? = some (bcell s (p + (k - 0)))) (hp : p + W ≤ s.size) (hW : W ≤ 4096) (hrs : rb ≠ sb) (hrb : rb ≠ bb) : RSx rb sb bb s p 0 M .nilIface lb (w'.setCell ⟨rb, 3, none⟩ (.int .i64 M)) := by
  obtain ⟨h1, ⟨pr, h2⟩, h3, _⟩ := h
  have hx : (s.extract (p + W) s.size).size = s.size - (p + W) := by simp
  have hsl := sbytes_len (s.extract (p + W) s.size) n (by omega)
  refine ⟨p + W + n, lrs, pr, _, set_block h1 _, (set_other (Ne.symm hrs) _).trans h2, (set_other (Ne.symm hrb) _).trans h3, ?_, Nat.zero_le _, by omega, by omega, by omega, ?_⟩
  · rw [length_splice _ _ _ (by rw [hsl]; omega)]; exact hbl
  · intro k _ hk
    rw [Nat.sub_zero]
    by_cases hkw : k < W
    · rw [splice_low hkw (by omega)]
      exact h9 k (Nat.zero_le _) hkw
    · rw [splice_mid (by omega) (by rw [hsl]; omega) (by omega), sbytes_get s (p + W) n (k - W) (by omega) hn2 hp]
      rw [show p + W + (k - W) = p + k by omega]

theorem slide_rs {rb sb bb : Nat} {s : ByteArray} {p r W0 W i : Nat} {lb lrs pr : Int} {bs cs R : List Value} {w w1 : World}
    (h1 : w1.heap[rb]? = some (.cells #[.slice (some ⟨bb, 0, none⟩) 4096 4096, .iface 40 (.pointer (some ⟨sb, 0, none⟩)), .int .i64 r, .int .i64 W0, .nilIface, .int .i64 lb, .int .i64 lrs] 70 (0, 0)))
    (h2 : w1.heap[sb]? = some (.cells #[.string s, .int .i64 i, .int .i64 pr] 52 (0, 0))) (h3 : w1.heap[bb]? = some (.cells R.toArray 5 (0, 0))) (hR : splice bs 0 cs = R)
    (hB : bs.length = 4096 ∧ i + r = p + W0 ∧ i ≤ s.size ∧ W0 ≤ 4096 ∧ (∀ k, r ≤ k → k < W0 → bs[k]? = some (bcell s (p + (k - r)))) ∧ (bs.drop r).take W = cs ∧ rb ≠ sb ∧ rb ≠ bb) (hV : W0 = r + W) (ht : Tch [rb, sb, bb] w w1) :
    RSx rb sb bb s p 0 W .nilIface lb ((w1.setCell ⟨rb, 3, none⟩ (.int .i64 W)).drew.setCell ⟨rb, 2, none⟩ (.int .i64 0)) ∧ Tch [rb, sb, bb] w ((w1.setCell ⟨rb, 3, none⟩ (.int .i64 W)).drew.setCell ⟨rb, 2, none⟩ (.int .i64 0)) := by
  obtain ⟨h4, h5, h6, h7, h8, h9, hrs, hrb⟩ := hB
  have hcl : cs.length = W := by rw [← h9]; simp; omega
  have q1 : (w1.setCell ⟨rb, 3, none⟩ (.int .i64 W)).drew.heap[rb]? = _ := set_block h1 (.int .i64 W)
  refine ⟨⟨i, lrs, pr, R, set_block q1 _, (set_other (Ne.symm hrs) _).trans ((set_other (Ne.symm hrs) _).trans h2), (set_other (Ne.symm hrb) _).trans ((set_other (Ne.symm hrb) _).trans h3), ?_, Nat.zero_le _, by omega, by omega, h6, ?_⟩, ((ht.setCell (by simp) _).drew).setCell (by simp) _⟩
  · rw [← hR, length_splice _ _ _ (by omega)]; exact h4
  · intro k _ hk
    rw [← hR, splice_mid (Nat.zero_le _) (by omega) (Nat.zero_le _), ← h9, Nat.sub_zero, List.getElem?_take, if_pos hk, List.getElem?_drop, h8 (r + k) (by omega) (by omega)]
    congr 3
    omega

set_option maxRecDepth 100000 in
set_option maxHeartbeats 2000000 in
theorem fill_any (ea : Addr) (rb sb bb : Nat) (s : ByteArray) (p r W0 W : Nat) (lb : Int) (w : World) (h : RSx rb sb bb s p r W0 .nilIface lb w) (hV : W0 = r + W) (hW : W < 4096) (hs : s.size ≤ 2097152) (hE : w.cell? ⟨0, 0, none⟩ = some (eofV ea)) (hz : rb ≠ 0 ∧ sb ≠ 0 ∧ bb ≠ 0) :
    Calls Tryf.prog 34 #[.pointer (some ⟨rb, 0, none⟩)] w fun e w' => e = .returned (.tuple #[]) ∧ Tch [rb, sb, bb] w w' ∧ ∃ W' e', RSx rb sb bb s p 0 W' e' lb w' ∧ ((p + W < s.size ∧ e' = .nilIface ∧ W < W') ∨ (p + W = s.size ∧ e' = eofV ea ∧ W' = W)) := by
  obtain ⟨c0, c1, c2, c3, c4, c5, ⟨l6, c6⟩, f2, f3, f4, f5, f6⟩ := h.cells
  have HS0 := hide h
  have HE := hide hE
  have HZ := hide hz
  clear h hE hz
  have hwi : (W : Int) < 4096 := by omega
  have hwd : decide ((4096 : Int) ≤ (W : Int)) = false := decide_eq_false (by omega)
  go_enter Tryf.func34, Tryf.ntmps34
  go_upto_if 9 with fail
  go_cut [] from 10 to 41 (fun wx => RSx rb sb bb s p 0 W .nilIface lb wx ∧ Tch [rb, sb, bb] w wx)
  case first =>
    by_cases hr : r = 0
    · subst hr
      go_wp2_with fail
      go_meet
      case rel =>
        have := unhide HS0
        rw [hV, Nat.zero_add] at this
        exact ⟨this, Tch.refl _ _⟩
    · have hd : decide ((0 : Int) < (r : Int)) = true := decide_eq_true (by omega)
      obtain ⟨i, lrs, pr, bs, h1, h2, h3, h4, h5, h6, h7, h8, h9⟩ := unhide HS0
      have hrs : rb ≠ sb := fun e => by subst e; rw [h1] at h2; cases h2
      have hrb : rb ≠ bb := fun e => by subst e; rw [h1] at h3; cases h3
      have hsb : sb ≠ bb := fun e => by subst e; rw [h2] at h3; cases h3
      have e1 : (r : Int) ≤ (W0 : Int) := by omega
      have e2 : (W0 : Int) ≤ 4096 := by omega
      have e3 : (0 : Int) ≤ (r : Int) := by omega
      have e4 : (W0 : Int) - (r : Int) = (W : Int) := by omega
      have e5 : W0 - r = W := by omega
      obtain ⟨cs, hcs⟩ : ∃ cs, (bs.drop r).take W = cs := ⟨_, rfl⟩
      have hcl : cs.length = W := by rw [← hcs]; simp; omega
      have HN : Hid (cs.length = Nat.min W 4096) := hide (by rw [hcl]; exact (Nat.min_eq_left (by omega)).symm)
      have HF : Hid (0 + cs.length ≤ bs.length) := hide (by omega)
      have hc1 : ∀ v ∈ cs, v.oneCell' = true := by
        intro v hv
        rw [← hcs] at hv
        obtain ⟨j, hj⟩ := List.getElem?_of_mem hv
        have hjl : j < W := by
          have := (List.getElem?_eq_some_iff.1 hj).1
          simp at this; omega
        rw [List.getElem?_take, if_pos hjl, List.getElem?_drop, h9 (r + j) (by omega) (by omega)] at hj
        cases hj
        rfl
      have HC1 := hide hc1
      have hsrc : ∀ j v, cs[j]? = some v → w.drew.cell? ((⟨bb, r, none⟩ : Addr).add j) = some v := by
        intro j v hj
        rw [← hcs] at hj
        have hjl : j < W := by
          have := (List.getElem?_eq_some_iff.1 hj).1
          simp at this; omega
        rw [List.getElem?_take, if_pos hjl, List.getElem?_drop] at hj
        have ha : (⟨bb, r, none⟩ : Addr).add j = ⟨bb, r + j, none⟩ := by unfold Addr.add; split <;> simp_all
        rw [ha]
        show w.cell? ⟨bb, r + j, none⟩ = some v
        simp [World.cell?, h3, hj]
      have HSrc := hide hsrc
      have H3 : Hid (w.drew.heap[bb]? = some (.cells bs.toArray 5 (0, 0))) := hide h3
      obtain ⟨R, hR⟩ : ∃ R, splice bs 0 cs = R := ⟨_, rfl⟩
      have HR := hide hR
      have hk1 : (w.drew.setRow bb R.toArray).heap[rb]? = _ := (setRow_other w.drew bb rb R.toArray hrb).trans h1
      have hk2 : (w.drew.setRow bb R.toArray).heap[sb]? = _ := (setRow_other w.drew bb sb R.toArray hsb).trans h2
      have hk3 : (w.drew.setRow bb R.toArray).heap[bb]? = _ := setRow_heap w.drew bb _ R.toArray 5 (0, 0) h3
      have HK1 := hide hk1
      have HK2 := hide hk2
      have HK3 := hide hk3
      have HT1 : Hid (Tch [rb, sb, bb] w (w.drew.setRow bb R.toArray)) := hide (((Tch.refl _ w).drew).setRow (by simp) _)
      have hkS : (w.drew.setRow bb R.toArray).cell? ⟨rb, 0, none⟩ = some (.slice (some ⟨bb, 0, none⟩) 4096 4096) ∧ (w.drew.setRow bb R.toArray).cell? ⟨rb, 2, none⟩ = some (.int .i64 r) ∧ (w.drew.setRow bb R.toArray).cell? ⟨rb, 3, none⟩ = some (.int .i64 W0) := ⟨by simp only [World.cell?, hk1]; rfl, by simp only [World.cell?, hk1]; rfl, by simp only [World.cell?, hk1]; rfl⟩
      have HKS := hide hkS
      have HB : Hid (bs.length = 4096 ∧ i + r = p + W0 ∧ i ≤ s.size ∧ W0 ≤ 4096 ∧ (∀ k, r ≤ k → k < W0 → bs[k]? = some (bcell s (p + (k - r)))) ∧ (bs.drop r).take W = cs ∧ rb ≠ sb ∧ rb ≠ bb) := hide ⟨h4, h7, h8, h6, h9, hcs, hrs, hrb⟩
      have HV := hide hV
      clear h1 h2 h3 h4 h5 h6 h7 h8 h9 hk1 hk2 hk3 hkS hsrc hc1 hcl hR hcs hrs hrb hsb hV
      by_cases hr4 : r = 4096
      · have hif : ((4096 : Nat) = r) = True := eq_true hr4.symm
        have HSrc2 : Hid (∀ j v, cs[j]? = some v → w.drew.cell? ((⟨bb, 0, none⟩ : Addr).add j) = some v) := hide (by
          intro j v hj
          have hw0 : W = 0 := by omega
          have := unhide HN
          rw [hw0] at this
          have h0 : cs = [] := List.eq_nil_of_length_eq_zero (by simpa using this)
          rw [h0] at hj
          simp at hj)
        clear hr4
        go_wp2_with fail
        go_region_held3 (fun w' => w'.cell? ⟨rb, 0, none⟩ = some (.slice (some ⟨bb, 0, none⟩) 4096 4096) ∧ w'.cell? ⟨rb, 2, none⟩ = some (.int .i64 r) ∧ w'.cell? ⟨rb, 3, none⟩ = some (.int .i64 W0)) (first | go_keep | exact unhide HKS) (first
          | (refine step_copy_row rfl (.tmp 13) (.tmp 26) 60 60 rfl 5 Tryf.underlying60 info5 bb 0 4096 4096 ⟨bb, 0, none⟩ W (4096 - r) (by simp [Act.eval]) (by simp [Act.eval]) bs 5 (unhide H3) cs (unhide HN) (unhide HSrc2) (unhide HF) (unhide HC1) ?_; rw [unhide HR]))
        generalize w.drew.setRow bb R.toArray = w1 at *
        obtain ⟨k0, k2, k3, l2, l3⟩ : w1.cell? ⟨rb, 0, none⟩ = some (.slice (some ⟨bb, 0, none⟩) 4096 4096) ∧ w1.cell? ⟨rb, 2, none⟩ = some (.int .i64 r) ∧ w1.cell? ⟨rb, 3, none⟩ = some (.int .i64 W0) ∧ w1.frozen? ⟨rb, 2, none⟩ = false ∧ w1.frozen? ⟨rb, 3, none⟩ = false := ⟨(unhide HKS).1, (unhide HKS).2.1, (unhide HKS).2.2, by simp only [World.frozen?, unhide HK1]; rfl, by simp only [World.frozen?, unhide HK1]; rfl⟩
        go_wp2_with fail
        go_region
        go_wp2_with fail
        go_meet
        case rel =>
          exact slide_rs (unhide HK1) (unhide HK2) (unhide HK3) (unhide HR) (unhide HB) (unhide HV) (unhide HT1)
      · have hr5 : (4096 : Nat) ≠ r := by omega
        go_wp2_with fail
        go_region_held3 (fun w' => w'.cell? ⟨rb, 0, none⟩ = some (.slice (some ⟨bb, 0, none⟩) 4096 4096) ∧ w'.cell? ⟨rb, 2, none⟩ = some (.int .i64 r) ∧ w'.cell? ⟨rb, 3, none⟩ = some (.int .i64 W0)) (first | go_keep | exact unhide HKS) (first
          | (refine step_copy_row rfl (.tmp 13) (.tmp 26) 60 60 rfl 5 Tryf.underlying60 info5 bb 0 4096 4096 ⟨bb, r, none⟩ W (4096 - r) (by simp [Act.eval]) (by simp [Act.eval]) bs 5 (unhide H3) cs (unhide HN) (unhide HSrc) (unhide HF) (unhide HC1) ?_; rw [unhide HR]))
        generalize w.drew.setRow bb R.toArray = w1 at *
        obtain ⟨k0, k2, k3, l2, l3⟩ : w1.cell? ⟨rb, 0, none⟩ = some (.slice (some ⟨bb, 0, none⟩) 4096 4096) ∧ w1.cell? ⟨rb, 2, none⟩ = some (.int .i64 r) ∧ w1.cell? ⟨rb, 3, none⟩ = some (.int .i64 W0) ∧ w1.frozen? ⟨rb, 2, none⟩ = false ∧ w1.frozen? ⟨rb, 3, none⟩ = false := ⟨(unhide HKS).1, (unhide HKS).2.1, (unhide HKS).2.2, by simp only [World.frozen?, unhide HK1]; rfl, by simp only [World.frozen?, unhide HK1]; rfl⟩
        go_wp2_with fail
        go_region
        go_wp2_with fail
        go_meet
        case rel =>
          exact slide_rs (unhide HK1) (unhide HK2) (unhide HK3) (unhide HR) (unhide HB) (unhide HV) (unhide HT1)
  case rest =>
    obtain ⟨hrs0, ht0⟩ := hcut
    have h0 : wc.cell? ⟨0, 0, none⟩ = some (eofV ea) := by
      rw [← unhide HE]
      apply World.cell?_of_block
      have hlt : 0 < w.heap.size := World.block_lt_of_cell? w ⟨0, 0, none⟩ (unhide HE)
      obtain ⟨z1, z2, z3⟩ := unhide HZ
      exact ht0.block 0 hlt (by simp; exact ⟨Ne.symm z1, Ne.symm z2, Ne.symm z3⟩)
    have HS := hide hrs0
    have HT0 := hide ht0
    clear c0 c1 c2 c3 c4 c5 c6 f2 f3 f4 f5 f6 HS0
    obtain ⟨c0, c1, c2, c3, c4, c5, ⟨l6, c6⟩, f2, f3, f4, f5, f6⟩ := hrs0.cells
    clear hrs0 ht0
    go_wp2_with fail
    go_quiet (fail)
    go_wp2_with fail
    go_loopw [2] (fun i wr => i = .int .i64 100 ∧ ∃ n, wr = wc.drewN n) (fun _ _ => 0)
    case atStart => exact ⟨rfl, _, rfl⟩
    case round =>
      obtain ⟨rfl, n, rfl⟩ := hrel
      go_wp2_with fail
      have hmr := fun w => method_read ⟨sb, 0, none⟩ w
      have hwi2 : (W : Int) ≤ 4096 := by omega
      have hwi3 : (0 : Int) ≤ (W : Int) := by omega
      have hwne : (4096 : Nat) ≠ W := by omega
      have hwne2 : W ≠ 4096 := by omega
      by_cases hend : p + W = s.size
      · have hsr : SR sb s s.size (wc.drewN n) := by
          obtain ⟨i, lrs, pr, bs, h1, h2, h3, h4, h5, h6, h7, h8⟩ := unhide HS
          have : i = s.size := by omega
          subst this
          exact ⟨pr, h2⟩
        have HSR := hide hsr
        have H0 := hide h0
        clear hsr h0
        go_region_held3 (fun w' => w'.cell? ⟨rb, 0, none⟩ = some (.slice (some ⟨bb, 0, none⟩) 4096 4096) ∧ w'.cell? ⟨rb, 1, none⟩ = some (.iface 40 (.pointer (some ⟨sb, 0, none⟩))) ∧ w'.cell? ⟨rb, 3, none⟩ = some (.int .i64 W)) (go_keep) (first
          | (go_at_call 89; refine (strRead_eof ea sb s _ _ (by exact unhide HSR) (by exact unhide H0)).mono ?_; unfold eofV; rintro e w1 ⟨rfl, k1, rfl⟩))
        go_wp2_with fail
        first | go_end0 | (refine bodyPost_ret (results_none rfl _ _ _) rfl ?_)
        refine ⟨rfl, ?_, W, eofV ea, ?_, .inr ⟨hend, rfl, rfl⟩⟩
        · exact (((unhide HT0).drewN _).setCell (by simp) _).setCell (by simp) _
        · exact fill_eof_rs (unhide HS) _
      · have hlt : p + W < s.size := by
          obtain ⟨i, lrs, pr, bs, h1, h2, h3, h4, h5, h6, h7, h8, _⟩ := unhide HS
          omega
        obtain ⟨n2, hn2⟩ : ∃ n2, n2 = Nat.min (s.size - (p + W)) (4096 - W) := ⟨_, rfl⟩
        have hn2p : 0 < n2 := by rw [hn2]; exact Nat.lt_min.2 ⟨by omega, by omega⟩
        have hn2b : n2 ≤ 4096 - W := by rw [hn2]; exact Nat.min_le_right _ _
        have hn2c : n2 ≤ s.size - (p + W) := by rw [hn2]; exact Nat.min_le_left _ _
        obtain ⟨M, hM⟩ : ∃ M, W + n2 = M := ⟨_, rfl⟩
        have hM1 : (W : Int) + (n2 : Int) = (M : Int) := by omega
        have hM2 : M ≤ 4096 := by omega
        have hd1 : decide ((0 : Int) < (n2 : Int)) = true := decide_eq_true (by omega)
        have hd2 : decide ((n2 : Int) < 0) = false := decide_eq_false (by omega)
        obtain ⟨i, lrs, pr, bs, h1, h2, h3, h4, h5, h6, h7, h8, h9⟩ := unhide HS
        obtain rfl : i = p + W := by omega
        have hrs : rb ≠ sb := fun e => by subst e; rw [h1] at h2; cases h2
        have hrb : rb ≠ bb := fun e => by subst e; rw [h1] at h3; cases h3
        have HCall : Hid (∀ k, Calls Tryf.prog 89 #[.pointer (some ⟨sb, 0, none⟩), .slice (some ⟨bb, W, none⟩) (4096 - W) (4096 - W)] (wc.drewN k) fun e w' => e = .returned (.tuple #[.int .i64 n2, .nilIface]) ∧ FillSome rb sb bb s p W n2 lb lrs bs wc w') := hide (fun k => by
          refine (strRead_some sb bb W (4096 - W) (p + W) n2 s bs (wc.drewN k) ⟨pr, h2⟩ h3 h4 h6 hlt hs hn2).mono ?_
          rintro e w' ⟨rfl, ⟨pr', q1⟩, q2, q3⟩
          exact ⟨rfl, q3.of_drewN.at h1 (by simp [hrs, hrb]), ⟨pr', q1⟩, q2, q3.of_drewN⟩)
        have H9 := hide h9
        have H4 := hide h4
        have HM := hide hM
        have HRS : Hid (rb ≠ sb ∧ rb ≠ bb) := hide ⟨hrs, hrb⟩
        have HB : Hid (n2 ≤ 4096 - W ∧ n2 ≤ s.size - (p + W)) := hide ⟨hn2b, hn2c⟩
        clear h1 h2 h3 h4 h5 h6 h7 h8 h9 hn2 hn2b hn2c hM h0 hrs hrb
        go_region_held3 (fun w' => w'.cell? ⟨rb, 0, none⟩ = some (.slice (some ⟨bb, 0, none⟩) 4096 4096) ∧ w'.cell? ⟨rb, 1, none⟩ = some (.iface 40 (.pointer (some ⟨sb, 0, none⟩))) ∧ w'.cell? ⟨rb, 3, none⟩ = some (.int .i64 W)) (go_keep) (first
          | (go_at_call 89; refine (unhide HCall _).mono ?_; rintro e w1 ⟨rfl, hfs⟩; obtain ⟨k0, k1, k3, k4, l3, l4⟩ := hfs.cells; have HFS := hide hfs; clear hfs))
        go_wp2_with fail
        refine bodyPost_ret (results_none rfl _ _ _) rfl ⟨rfl, ?_, M, .nilIface, ?_, .inl ⟨hlt, rfl, ?_⟩⟩
        · exact ((unhide HT0).trans ((unhide HFS).2.2.2.mono (by intro k hk; simp at hk ⊢; rcases hk with h | h <;> simp [h]))).setCell (by simp) _
        · exact fill_some_rs (unhide HFS) (unhide HM) (unhide HB).1 (unhide HB).2 (unhide H4) (unhide H9) (Nat.le_of_lt hlt) (Nat.le_of_lt hW) (unhide HRS).1 (unhide HRS).2
        · have := unhide HM
          omega
end Go.Proofs.Qxb6614301aFmt
