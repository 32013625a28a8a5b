import Derived.Test.Qxb6614301aFmtW5
import Derived.LaidEql
namespace Go.Proofs.Qxb6614301aFmt
open Go.RowKit

/-- What the walks lean on in every world: the two sentinels, their blocks, and that S are other blocks. -/
structure Gl (ea fa : Addr) (S : List Nat) (w : World) : Prop where
  e : w.cell? ⟨0, 0, none⟩ = some (eofV ea)
  f : w.cell? ⟨1, 0, none⟩ = some (fullV fa)
  ne : fa ≠ ea
  eb : ∃ c t, w.heap[ea.block]? = some (.cells c t (0, 0))
  fb : ∃ c t, w.heap[fa.block]? = some (.cells c t (0, 0))
  z : ∀ k ∈ S, k ≠ 0 ∧ k ≠ 1 ∧ k ≠ ea.block ∧ k ≠ fa.block
theorem Gl.tch {ea fa : Addr} {S : List Nat} {w w' : World} (h : Gl ea fa S w) (ht : Tch S w w') : Gl ea fa S w' := by
  have key : ∀ (g : Nat) (v : Value), w.cell? ⟨g, 0, none⟩ = some v → g ∉ S → w'.cell? ⟨g, 0, none⟩ = some v := fun g v hv hn => by
    rw [← hv]
    apply World.cell?_of_block
    exact ht.block g (World.block_lt_of_cell? w ⟨g, 0, none⟩ hv) hn
  obtain ⟨c, t, hc⟩ := h.eb
  obtain ⟨c', t', hc'⟩ := h.fb
  exact ⟨key 0 _ h.e (fun hm => (h.z 0 hm).1 rfl), key 1 _ h.f (fun hm => (h.z 1 hm).2.1 rfl), h.ne, ⟨c, t, ht.at hc (fun hm => (h.z _ hm).2.2.1 rfl)⟩, ⟨c', t', ht.at hc' (fun hm => (h.z _ hm).2.2.2 rfl)⟩, h.z⟩
theorem Gl.drewN {ea fa : Addr} {S : List Nat} {w : World} (h : Gl ea fa S w) (n : Nat) : Gl ea fa S (w.drewN n) := ⟨h.e, h.f, h.ne, h.eb, h.fb, h.z⟩
theorem Gl.sub {ea fa : Addr} {S T : List Nat} {w : World} (h : Gl ea fa S w) (hs : ∀ k, k ∈ T → k ∈ S) : Gl ea fa T w := ⟨h.e, h.f, h.ne, h.eb, h.fb, fun k hk => h.z k (hs k hk)⟩
theorem info100 : (Tryf.prog.info? 100).map (·.comparable) = some true := by kernel_rfl
theorem under100 : ∃ te, Tryf.prog.underlying 100 = some (.pointer te) ∧ ∃ j, Tryf.prog.info? te = some j ∧ j.size ≠ 0 := by
  refine ⟨_, Tryf.underlying100, ?_⟩
  have : (Tryf.prog.info? 102).map (·.size) = some 1 := by kernel_rfl
  obtain ⟨j, hj, hs⟩ := Option.map_eq_some_iff.1 this
  exact ⟨j, hj, by rw [hs]; decide⟩
theorem Gl.z0 {ea fa : Addr} {rb sb bb : Nat} {w : World} (h : Gl ea fa [rb, sb, bb] w) : rb ≠ 0 ∧ sb ≠ 0 ∧ bb ≠ 0 := ⟨(h.z rb (by simp)).1, (h.z sb (by simp)).1, (h.z bb (by simp)).1⟩
theorem Gl.z1 {ea fa : Addr} {rb sb bb : Nat} {w : World} (h : Gl ea fa [rb, sb, bb] w) : rb ≠ 1 ∧ sb ≠ 1 ∧ bb ≠ 1 := ⟨(h.z rb (by simp)).2.1, (h.z sb (by simp)).2.1, (h.z bb (by simp)).2.1⟩
/-- The comparisons of the two sentinels and nil. -/
theorem Gl.eqs {ea fa : Addr} {S : List Nat} {w : World} (h : Gl ea fa S w) :
    (binOp .eql 29 .nilIface (.iface 100 (.pointer (some fa)))).run Tryf.prog w = .ok (.bool false) w ∧ (binOp .eql 29 .nilIface (.iface 100 (.pointer (some ea)))).run Tryf.prog w = .ok (.bool false) w ∧
    (binOp .eql 29 (.iface 100 (.pointer (some fa))) (.iface 100 (.pointer (some fa)))).run Tryf.prog w = .ok (.bool true) w ∧ (binOp .eql 29 (.iface 100 (.pointer (some ea))) (.iface 100 (.pointer (some ea)))).run Tryf.prog w = .ok (.bool true) w ∧
    (binOp .eql 29 (.iface 100 (.pointer (some ea))) (.iface 100 (.pointer (some fa)))).run Tryf.prog w = .ok (.bool false) w := by
  obtain ⟨i, hi, hcmp⟩ := Option.map_eq_some_iff.1 info100
  obtain ⟨te, hte, j, hj, hjs⟩ := under100
  obtain ⟨c, t, hc⟩ := h.eb
  obtain ⟨c', t', hc'⟩ := h.fb
  exact ⟨run_eql_iface_nil_left w 100 _ Tryf.underlying29, run_eql_iface_nil_left w 100 _ Tryf.underlying29, run_eql_iface_ptr_same w fa Tryf.underlying29 hte hi hcmp hj, run_eql_iface_ptr_same w ea Tryf.underlying29 hte hi hcmp hj, run_eql_iface_ptr_other w Tryf.underlying29 hte hi hcmp hj hjs (Ne.symm h.ne) hc hc'⟩

/-- What skipLine leaves. -/
def SlPost (ea : Addr) (rb sb bb : Nat) (s : ByteArray) (p : Nat) (w : World) (e : Ending) (w' : World) : Prop :=
  (∃ (x : Int) (j : Nat), e = .returned (.tuple #[.int .i64 x, .bool true, .nilIface]) ∧ p ≤ j ∧ j < s.size ∧ byt s j = 10 ∧ NoD s 10 p j ∧ RD ea rb sb bb s (j + 1) w' ∧ Tch [rb, sb, bb] w w') ∨
  (∃ (x : Int), e = .returned (.tuple #[.int .i64 x, .bool false, .nilIface]) ∧ NoD s 10 p s.size ∧ RD ea rb sb bb s s.size w' ∧ Tch [rb, sb, bb] w w')

def posN (q : Nat) : Nat := q

theorem RD.pos {ea : Addr} {rb sb bb : Nat} {s : ByteArray} {p : Nat} {w : World} (h : RD ea rb sb bb s p w) : ∃ (i r W : Nat) (pr : Int), w.cell? ⟨sb, 1, none⟩ = some (.int .i64 i) ∧ w.cell? ⟨rb, 2, none⟩ = some (.int .i64 r) ∧ w.cell? ⟨rb, 3, none⟩ = some (.int .i64 W) ∧ i + r = p + W ∧ r ≤ W ∧ p ≤ s.size ∧ pr = 0 := by
  obtain ⟨r, W, e, lb, ⟨i, lrs, pr, bs, h1, h2, h3, h4, h5, h6, h7, h8, _⟩, _⟩ := h
  exact ⟨i, r, W, 0, by simp [World.cell?, h2], by simp [World.cell?, h1], by simp [World.cell?, h1], h7, h5, by omega, rfl⟩
/-- Where a reader stands. -/
def atPos (rb sb : Nat) (w : World) : Nat :=
  match w.cell? ⟨sb, 1, none⟩, w.cell? ⟨rb, 2, none⟩, w.cell? ⟨rb, 3, none⟩ with
  | some (.int .i64 i), some (.int .i64 r), some (.int .i64 W) => (i + r - W).toNat
  | _, _, _ => 0
theorem RD.atPos {ea : Addr} {rb sb bb : Nat} {s : ByteArray} {p : Nat} {w : World} (h : RD ea rb sb bb s p w) : atPos rb sb w = p := by
  obtain ⟨i, r, W, pr, c1, c2, c3, h7, _⟩ := h.pos
  unfold Qxb6614301aFmt.atPos
  rw [c1, c2, c3]
  simp only
  omega
theorem RD.le {ea : Addr} {rb sb bb : Nat} {s : ByteArray} {p : Nat} {w : World} (h : RD ea rb sb bb s p w) : p ≤ s.size := by
  obtain ⟨i, r, W, pr, c1, c2, c3, h7, h8, h9, _⟩ := h.pos
  exact h9

set_option maxRecDepth 100000 in
set_option maxHeartbeats 1000000 in
theorem skipLine_any (ea fa : Addr) (rb sb bb : Nat) (s : ByteArray) (p : Nat) (w : World) (h : RD ea rb sb bb s p w) (hs : s.size ≤ 2097152) (hg : Gl ea fa [rb, sb, bb] w) :
    Calls Tryf.prog 36 #[.pointer (some ⟨rb, 0, none⟩)] w (SlPost ea rb sb bb s p w) := by
  generalize hT : SlPost ea rb sb bb s p w = T
  have hTr : ∀ (e : Ending) (w' : World), SlPost ea rb sb bb s p w e w' → T e w' := fun e w' h => by rw [← hT]; exact h
  have HTr := hide hTr
  have HR := hide h
  have HG := hide hg
  clear h hg hT hTr
  go_enter Tryf.func36, Tryf.ntmps36
  go_wp2_with fail
  go_loopw [2] (fun v wr => ∃ (x : Int) (q : Nat), v = .int .i64 x ∧ p ≤ q ∧ RD ea rb sb bb s q wr ∧ NoD s 10 p q ∧ Tch [rb, sb, bb] w wr) (fun _ wr => s.size - atPos rb sb wr)
  case atStart => exact ⟨0, p, rfl, Nat.le_refl _, unhide HR, fun k h1 h2 => by omega, Tch.refl _ _⟩
  case round =>
    obtain ⟨x, q, rfl, hpq, hrd, hno, ht⟩ := hrel
    have HRd := hide hrd
    have HNo := hide hno
    have HTc := hide ht
    have hg1 := (unhide HG).tch ht
    have HG1 := hide hg1
    clear hrd hno ht hg1
    go_wp2_with fail
    refine (readSlice_any ea fa rb sb bb s 10 q wr (unhide HRd) hs (unhide HG1).e (unhide HG1).f (unhide HG1).z0 (unhide HG1).z1).mono ?_
    rintro e w1 ⟨o, n, c, v, rfl, hch, hrd1, ht1, hle, hcase⟩
    have hg2 := (unhide HG1).tch ht1
    have e0 := hg2.e
    have e1 := hg2.f
    obtain ⟨b1, b2, b3, b4, b5⟩ := hg2.eqs
    unfold eofV at e0
    unfold fullV at e1
    have HRd1 := hide hrd1
    have HT1 := hide ((unhide HTc).trans ht1)
    clear hrd1 ht1 hch hg2
    rcases hcase with ⟨rfl, h1, _, h2, h3⟩ | ⟨rfl, h1, h2⟩ | ⟨rfl, h1, h2⟩
    · have HC := hide (And.intro h1 (And.intro h2 h3))
      clear h1 h2 h3
      go_wp2_with fail
      obtain ⟨k1, k2, k3⟩ := unhide HC
      refine bodyPost_ret (v := .tuple #[.int .i64 (wrap64 (x + (n : Int))), .bool true, .nilIface]) (by simp [results, Tryf.results36]) rfl (unhide HTr _ _ (.inl ⟨_, q + n - 1, rfl, by omega, by omega, k2, ?_, ?_, unhide HT1⟩))
      · intro k h1 h2
        by_cases hk : k < q
        · exact unhide HNo k h1 hk
        · exact k3 k (by omega) h2
      · rw [show q + n - 1 + 1 = q + n by omega]; exact unhide HRd1
    · have HC := hide (And.intro h1 h2)
      clear h1 h2
      unfold fullV
      go_wp2_with fail
      go_roundw
      case rel =>
        obtain ⟨k1, k2⟩ := unhide HC
        refine ⟨_, q + n, rfl, by omega, unhide HRd1, ?_, unhide HT1⟩
        intro k h1 h2
        by_cases hk : k < q
        · exact unhide HNo k h1 hk
        · exact k2 k (by omega) h2
      case measure =>
        obtain ⟨k1, k2⟩ := unhide HC
        rw [(unhide HRd1).atPos, (unhide HRd).atPos]
        omega
    · have HC := hide (And.intro h1 h2)
      clear h1 h2
      unfold eofV
      go_wp2_with fail
      obtain ⟨k1, k2⟩ := unhide HC
      refine bodyPost_ret (v := .tuple #[.int .i64 (wrap64 (x + (n : Int))), .bool false, .nilIface]) (by simp [results, Tryf.results36]) rfl (unhide HTr _ _ (.inr ⟨_, rfl, ?_, ?_, unhide HT1⟩))
      · intro k h1 h2
        by_cases hk : k < q
        · exact unhide HNo k h1 hk
        · exact k2 k (by omega) (by omega)
      · rw [← k1]; exact unhide HRd1
end Go.Proofs.Qxb6614301aFmt
