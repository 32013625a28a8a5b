import Derived.Test.Qxb6614301aFmtW10
namespace Go.Proofs.Qxb6614301aFmt
open Go.RowKit
open Go.Extern.Stop Go.Stop Go.Extern

theorem i64w (x : Int) : IntKind.i64.wrap x = wrap64 x := by rw [IntKind.wrap_i64]; unfold wrap64; omega
theorem Tch.alloc {S : List Nat} {a b : World} (h : Tch S a b) (o : Obj) : Tch S a (b.alloc o) :=
  ⟨h.os, h.tape, h.output, by have := h.size; show a.heap.size ≤ (b.heap.push o).size; simp; omega, fun k hk hn => (Lib.alloc_old b o k (Nat.lt_of_lt_of_le hk h.size)).trans (h.block k hk hn)⟩
theorem RD.tch {ea : Addr} {rb sb bb : Nat} {s : ByteArray} {p : Nat} {S : List Nat} {w w' : World} (h : RD ea rb sb bb s p w) (ht : Tch S w w') (hn : ∀ k, k = rb ∨ k = sb ∨ k = bb → k ∉ S) : RD ea rb sb bb s p w' := by
  obtain ⟨r, W, e, lb, ⟨i, lrs, pr, bs, h1, h2, h3, h4⟩, he⟩ := h
  exact ⟨r, W, e, lb, ⟨i, lrs, pr, bs, ht.at h1 (hn rb (.inl rfl)), ht.at h2 (hn sb (.inr (.inl rfl))), ht.at h3 (hn bb (.inr (.inr rfl))), h4⟩, he⟩
theorem RU.tch {ea : Addr} {rb sb bb : Nat} {s : ByteArray} {p : Nat} {S : List Nat} {w w' : World} (h : RU ea rb sb bb s p w) (ht : Tch S w w') (hn : ∀ k, k = rb ∨ k = sb ∨ k = bb → k ∉ S) : RU ea rb sb bb s p w' := by
  obtain ⟨r, W, e, lb, ⟨i, lrs, pr, bs, h1, h2, h3, h4⟩, he⟩ := h
  exact ⟨r, W, e, lb, ⟨i, lrs, pr, bs, ht.at h1 (hn rb (.inl rfl)), ht.at h2 (hn sb (.inr (.inl rfl))), ht.at h3 (hn bb (.inr (.inr rfl))), h4⟩, he⟩
theorem Chunk.tch {bb o : Nat} {s : ByteArray} {p n : Nat} {S : List Nat} {w w' : World} (h : Chunk bb o s p n w) (ht : Tch S w w') (hn : bb ∉ S) : Chunk bb o s p n w' := fun j hj => by
  have := h j hj
  rw [← this]
  exact World.cell?_of_block (ht.block bb (World.block_lt_of_cell? w ⟨bb, o + j, none⟩ this) hn)
theorem RD.lts {ea : Addr} {rb sb bb : Nat} {s : ByteArray} {p : Nat} {w : World} (h : RD ea rb sb bb s p w) : rb < w.heap.size ∧ sb < w.heap.size ∧ bb < w.heap.size := by
  obtain ⟨r, W, e, lb, ⟨i, lrs, pr, bs, h1, h2, h3, h4⟩, he⟩ := h
  exact ⟨(Array.getElem?_eq_some_iff.1 h1).1, (Array.getElem?_eq_some_iff.1 h2).1, (Array.getElem?_eq_some_iff.1 h3).1⟩
theorem PB.lt {pb rb : Nat} {name : ByteArray} {L : Int} {n : Nat} {w : World} (h : PB pb rb name L n w) : pb < w.heap.size := (Array.getElem?_eq_some_iff.1 h).1

theorem count_any (bb o n c q b2 : Nat) (s : ByteArray) (w : World) (hc : Chunk bb o s q n w) (hc2 : w.cell? ⟨b2, 0, none⟩ = some (.int .u8 10)) :
    Calls Tryf.prog 38 #[.slice (some ⟨bb, o, none⟩) n c, .slice (some ⟨b2, 0, none⟩) 1 1] w fun e w' => e = .returned (.int .i64 (((seg s q n).count 10 : Nat) : Int)) ∧ w' = w := by
  have h := Tryf.bytes_Count_one bb o n c b2 0 1 ((List.range n).map fun j => ((byt s (q + j)).toNat : Int)) 10 w (by simp) (by
    intro i hi
    rw [hc i hi]
    simp [List.getD, hi, bcell_byt]) hc2
  have e1 : Lib.bytesOf ((List.range n).map fun j => ((byt s (q + j)).toNat : Int)) = seg s q n := by
    simp [Lib.bytesOf, seg]
  rw [e1] at h
  exact h

/-- What quoted leaves. -/
def QPost (ea : Addr) (pb rb sb bb : Nat) (name s : ByteArray) (L : Int) (p : Nat) (w : World) (e : Ending) (w' : World) : Prop :=
  Tch [pb, rb, sb, bb] w w' ∧
  ((∃ j, p ≤ j ∧ j < s.size ∧ byt s j = 34 ∧ NoD s 34 p j ∧ e = .returned (.tuple #[.string ⟨(seg s p (j - p)).toArray⟩, .nilIface]) ∧ RD ea rb sb bb s (j + 1) w' ∧ PB pb rb name L (cnt s (j + 1)) w') ∨
   (∃ v, NoD s 34 p s.size ∧ e = .returned (.tuple #[.string ⟨#[]⟩, .iface 100 v])))

/-- The state of quoted's loop: the reader at q, the builder holds what was read. -/
structure QS (ea fa : Addr) (pb rb sb bb N : Nat) (name s : ByteArray) (L : Int) (p q : Nat) (w wr : World) : Prop where
  le : p ≤ q
  rd : RD ea rb sb bb s q wr
  pa : PB pb rb name L (cnt s q) wr
  bl : BL N N (seg s p (q - p)) wr
  no : NoD s 34 p q
  tc : Tch [pb, rb, sb, bb] w wr
  gl : Gl ea fa [pb, rb, sb, bb] wr

/-- .. and its round's state when a chunk of n bytes has been read and its line breaks counted. -/
structure QC (ea fa : Addr) (pb rb sb bb N : Nat) (name s : ByteArray) (L : Int) (p q o n : Nat) (w wr : World) : Prop where
  rd : RD ea rb sb bb s (q + n) wr
  pa : PB pb rb name L (cnt s (q + n)) wr
  bl : BL N N (seg s p (q - p)) wr
  ch : Chunk bb o s q n wr
  tc : Tch [pb, rb, sb, bb] w wr
  gl : Gl ea fa [pb, rb, sb, bb] wr

set_option maxRecDepth 100000 in
set_option maxHeartbeats 2000000 in
theorem quoted_any (F : Interp) (ea fa : Addr) (pb rb sb bb : Nat) (name s : ByteArray) (L : Int) (p : Nat) (k : Int) (w : World) (hF : F.answers w.tape) (h : RD ea rb sb bb s p w) (hp : PB pb rb name L (cnt s p) w) (hs : s.size ≤ 2097152) (hg : Gl ea fa [pb, rb, sb, bb] w) :
    Calls Tryf.prog 24 #[.pointer (some ⟨pb, 0, none⟩), .int .i64 k] w (QPost ea pb rb sb bb name s L p w) := by
  generalize hT : QPost ea pb rb sb bb name s L p w = T
  have hTr : ∀ (e : Ending) (w' : World), QPost ea pb rb sb bb name s L p w e w' → T e w' := fun e w' h => by rw [← hT]; exact h
  have HTr := hide hTr
  have hne := pb_ne hp h
  obtain ⟨lr, ls, lb⟩ := h.lts
  have lp := hp.lt
  have HFt := hide hF
  have HI : Hid (∀ o, QS ea fa pb rb sb bb w.heap.size name s L p p w (w.alloc o) ∨ o ≠ (.cells #[.pointer none, .slice none 0 0] 62 (0, 0))) := hide (fun o => by
    by_cases ho : o = (.cells #[.pointer none, .slice none 0 0] 62 (0, 0))
    · subst ho
      have ht := (Tch.refl [] w).alloc (.cells #[.pointer none, .slice none 0 0] 62 (0, 0))
      refine .inl ⟨Nat.le_refl _, h.tch ht (by simp), hp.tch ht (by simp), ?_, fun k h1 h2 => by omega, ht.mono (by simp), hg.tch (ht.mono (by simp))⟩
      rw [Nat.sub_self]
      exact BL.fresh rfl
    · exact .inr ho)
  have HNe := hide hne
  have HGw := hide hg
  clear h hp hg hT hTr hF hne
  obtain ⟨N, hN⟩ : ∃ N, w.heap.size = N := ⟨_, rfl⟩
  go_enter Tryf.func24, Tryf.ntmps24
  go_wp2_with fail
  go_loopw [] (fun wr => ∃ q, QS ea fa pb rb sb bb N name s L p q w wr) (fun wr => s.size - atPos rb sb wr)
  case atStart =>
    rw [← hN]
    rcases unhide HI (.cells #[.pointer none, .slice none 0 0] 62 (0, 0)) with h | h
    · exact ⟨p, h⟩
    · exact absurd rfl h
  case round =>
    obtain ⟨q, hq⟩ := hrel
    obtain ⟨c0, c1, c2, f2⟩ := hq.pa.cells
    have HQ := hide hq
    clear hq HI
    go_wp2_with fail
    refine (readSlice_any ea fa rb sb bb s 34 q wr (unhide HQ).rd hs (unhide HQ).gl.e (unhide HQ).gl.f ((unhide HQ).gl.sub (T := [rb, sb, bb]) (by simp)).z0 ((unhide HQ).gl.sub (T := [rb, sb, bb]) (by simp)).z1).mono ?_
    rintro e w1 ⟨o, n, c, v, rfl, hch, hrd1, ht1, hle, hcase⟩
    have ht1' : Tch [pb, rb, sb, bb] wr w1 := ht1.mono (by simp_all)
    have hpa1 := (unhide HQ).pa.tch ht1 (unhide HNe)
    have hbl1 := (unhide HQ).bl.tch ht1 (by
      intro k hk
      simp only [List.mem_cons, List.not_mem_nil, or_false] at hk
      rcases hk with rfl | rfl | rfl <;> omega)
    have hgl1 := (unhide HQ).gl.tch ht1'
    obtain ⟨d0, d1, d2, g2⟩ := hpa1.cells
    have HCh := hide hch
    have HRd := hide hrd1
    have HPa := hide hpa1
    have HBl := hide hbl1
    have HGl := hide hgl1
    have HTc := hide ((unhide HQ).tc.trans ht1')
    clear ht1 ht1' hpa1 hbl1 hgl1 hch hrd1 c0 c1 c2 f2
    have HNb : Hid (bb ∉ [pb] ∧ rb ∉ [pb] ∧ sb ∉ [pb] ∧ pb ≠ w1.heap.size) := hide (by
      have h1 := unhide HNe
      have h2 := (unhide HPa).lt
      simp at h1 ⊢
      omega)
    have HCt : Hid (∀ m, Calls Tryf.prog 38 #[.slice (some ⟨bb, o, none⟩) n c, .slice (some ⟨w1.heap.size, 0, none⟩) 1 1] ((w1.alloc (.cells #[.int .u8 10] 5)).drewN m) fun e w' => e = .returned (.int .i64 (((seg s q n).count 10 : Nat) : Int)) ∧ w' = (w1.alloc (.cells #[.int .u8 10] 5)).drewN m) := hide (fun m => by
      have hz : (w1.alloc (.cells #[.int .u8 10] 5)).heap[w1.heap.size]? = some (.cells #[.int .u8 10] 5) := by
        show (w1.heap.push _)[w1.heap.size]? = _
        simp
      refine count_any bb o n c q w1.heap.size s _ ?_ (by exact (Lib.cell_of_heap hz 0).trans rfl)
      exact (unhide HCh).tch (((Tch.refl [] w1).alloc _).drewN m) (by simp))
    have hlt1 : pb < w1.heap.size := (unhide HPa).lt
    have hpn : pb ≠ w1.heap.size := by omega
    have HW : Hid (∀ ob m v, v = .int .i64 (wrap64 (wrap64 (L + (cnt s q : Int)) + (((seg s q n).count 10 : Nat) : Int))) → QC ea fa pb rb sb bb N name s L p q o n w (((w1.alloc ob).drewN m).setCell ⟨pb, 2, none⟩ v)) := hide (fun ob m v hv => by
      subst hv
      have ht3 : Tch [pb] w1 (((w1.alloc ob).drewN m).setCell ⟨pb, 2, none⟩ (.int .i64 (wrap64 (wrap64 (L + (cnt s q : Int)) + (((seg s q n).count 10 : Nat) : Int))))) := (((Tch.refl _ w1).alloc ob).drewN m).setCell (by simp) _
      have ht4 : Tch [pb, rb, sb, bb] w1 _ := ht3.mono (by simp_all)
      have hnb := unhide HNb
      refine ⟨(unhide HRd).tch ht3 ?_, ?_, (unhide HBl).tch ht3 ?_, (unhide HCh).tch ht3 hnb.1, (unhide HTc).trans ht4, (unhide HGl).tch ht4⟩
      · rintro k (rfl | rfl | rfl)
        · exact hnb.2.1
        · exact hnb.2.2.1
        · exact hnb.1
      · have := ((unhide HPa).tch (((Tch.refl [] w1).alloc ob).drewN m) (by simp)).inc (k := (seg s q n).count 10)
        rw [← cnt_add] at this
        exact this
      · intro k hk
        simp only [List.mem_cons, List.not_mem_nil, or_false] at hk
        omega)
    go_upto_region 3 with fail
    go_cut [7, 8] from 9 to 61 (fun v7 v8 wx => v7 = .slice (some ⟨bb, o, none⟩) n c ∧ v8 = v ∧ QC ea fa pb rb sb bb N name s L p q o n w wx)
    case first =>
      go_region_with (go_at_call 38; refine (unhide HCt _).mono ?_; rintro e w' ⟨rfl, rfl⟩)
      all_goals
        go_wp2_with fail
        go_meet
        exact ⟨rfl, rfl, unhide HW _ _ _ (congrArg (Value.int .i64) (i64w _))⟩
    case rest =>
      obtain ⟨rfl, rfl, hqc⟩ := hcut
      clear HW HCt HCh HRd HPa HBl HGl HTc HNb d0 d1 d2 g2 hlt1 hpn
      obtain ⟨d0, d1, d2, g2⟩ := hqc.pa.cells
      obtain ⟨b1, b2, b3, b4, b5⟩ := hqc.gl.eqs
      have e0 := hqc.gl.e
      have e1 := hqc.gl.f
      unfold eofV at e0
      unfold fullV at e1
      have HQc := hide hqc
      have hNs : N ≤ wc.heap.size := by rw [← hN]; exact hqc.tc.size
      obtain ⟨K, hK⟩ : ∃ K, q - p = K := ⟨_, rfl⟩
      have HK : Hid (q = p + K) := hide (by have := (unhide HQ).le; omega)
      have HBl : Hid (BL N N (seg s p K) wc) := hide (by rw [← hK]; exact hqc.bl)
      have HLen : Hid (Calls Tryf.prog 25 #[.pointer (some ⟨N, 0, none⟩)] wc fun e w' => e = .returned (.int .i64 (K : Nat)) ∧ w' = wc) := hide (by
        have := len_any N N (seg s p K) wc (unhide HBl)
        rwa [seg_len] at this)
      have hKn : K + n ≤ 2097152 := by have := (unhide HQ).le; omega
      have HWr : Hid (∀ m, m ≤ n → Calls Tryf.prog 39 #[.pointer (some ⟨N, 0, none⟩), .slice (some ⟨bb, o, none⟩) m c] wc fun e w' => e = .returned (.tuple #[.int .i64 m, .nilIface]) ∧ BL N N (seg s p (K + m)) w' ∧ Below N wc w') := hide (fun m hm => by
        have := write_any N N bb o c q m s (seg s p K) wc (unhide HBl) (by rw [seg_len]; omega) hNs (by omega) (fun j hj => (unhide HQc).ch j (by omega))
        rw [unhide HK, ← seg_append] at this
        exact this)
      have HLe := hide hle
      have HNx : Hid (∀ w', Below N wc w' → RD ea rb sb bb s (q + n) w' ∧ PB pb rb name L (cnt s (q + n)) w' ∧ Tch [pb, rb, sb, bb] w w' ∧ Gl ea fa [pb, rb, sb, bb] w') := hide (fun w' hb => by
        have hc := unhide HQc
        have hk : ∀ k, k < N → w'.heap[k]? = wc.heap[k]? := hb.block
        have hle' := hc.tc.size
        have ht : Tch [pb, rb, sb, bb] w w' := ⟨hb.os.trans hc.tc.os, hb.tape.trans hc.tc.tape, hb.output.trans hc.tc.output, Nat.le_trans hc.tc.size hb.size, fun i hi hn => (hk i (by omega)).trans (hc.tc.block i hi hn)⟩
        refine ⟨hc.rd.keep ?_, (hk pb (by omega)).trans hc.pa, ht, (unhide HGw).tch ht⟩
        rintro i (rfl | rfl | rfl) <;> exact hk _ (by omega))
      clear hqc hK hle
      rcases hcase with ⟨rfl, h1, h1c, h2, h3⟩ | ⟨rfl, h1, h2⟩ | ⟨rfl, h1, h2⟩
      · have HC := hide (And.intro h2 h3)
        clear h2 h3
        obtain ⟨M, hM⟩ : ∃ M, n = M + 1 := ⟨n - 1, by omega⟩
        subst hM
        have hM0 : (0 : Int) ≤ (M : Int) := by omega
        have hM1 : (M : Int) ≤ (c : Int) := by omega
        obtain ⟨J, hJ⟩ : ∃ J, K + M = J := ⟨_, rfl⟩
        have hJ1 : (K : Int) + (M : Int) = (J : Int) := by omega
        have hJ2 : (J : Int) ≤ 2097152 := by omega
        have HJ := hide hJ
        clear hJ
        go_wp2_with fail
        refine (unhide HLen).mono ?_
        rintro e w' ⟨rfl, rfl⟩
        go_wp2_with fail
        refine (unhide HWr M (by omega)).mono ?_
        rintro e w2 ⟨rfl, hbl2, hb2⟩
        have HB2 := hide hbl2
        have HBe2 := hide hb2
        have hz2 : N ≤ w2.heap.size := by have := hb2.size; omega
        clear hbl2 hb2
        go_wp2_with fail
        refine (string_any N N _ w2 (unhide HB2) hz2).mono ?_
        rintro e w3 ⟨rfl, hbl3, hb3⟩
        have HBe3 := hide ((unhide HBe2).trans hb3)
        clear hbl3 hb3
        go_wp2_with fail
        obtain ⟨k1, k2, k3, k4⟩ := unhide HNx w3 (unhide HBe3)
        have hq := unhide HK
        obtain ⟨q1, q2⟩ := unhide HC
        have hle := unhide HLe
        refine unhide HTr _ _ ⟨k3, .inl ⟨q + M, by omega, by omega, q1, ?_, ?_, k1, k2⟩⟩
        · intro k h1 h2
          by_cases hk : k < q
          · exact (unhide HQ).no k h1 hk
          · exact q2 k (by omega) h2
        · rw [show q + M - p = K + M by omega]; rfl
      · have HC := hide (And.intro h1 h2)
        have hn0 : 1 ≤ n := by omega
        clear h1 h2
        unfold fullV
        obtain ⟨J, hJ⟩ : ∃ J, K + n = J := ⟨_, rfl⟩
        have hJ1 : (K : Int) + (n : Int) = (J : Int) := by omega
        have hJ2 : (J : Int) ≤ 2097152 := by omega
        have HJ := hide hJ
        clear hJ
        go_wp2_with fail
        refine (unhide HLen).mono ?_
        rintro e w' ⟨rfl, rfl⟩
        go_wp2_with fail
        refine (unhide HWr n (by omega)).mono ?_
        rintro e w2 ⟨rfl, hbl2, hb2⟩
        obtain ⟨k1, k2, k3, k4⟩ := unhide HNx w2 hb2
        clear b1 b2 b3 b4 b5 e0 e1
        obtain ⟨b1, b2, b3, b4, b5⟩ := k4.eqs
        have e0 := k4.e
        have e1 := k4.f
        unfold eofV at e0
        unfold fullV at e1
        have HN2 : Hid (QS ea fa pb rb sb bb N name s L p (q + n) w w2) := hide (by
          have hq := unhide HK
          refine ⟨by omega, k1, k2, ?_, ?_, k3, k4⟩
          · rw [show q + n - p = K + n by omega]
            exact hbl2
          · intro k h1 h2
            by_cases hk : k < q
            · exact (unhide HQ).no k h1 hk
            · exact (unhide HC).2 k (by omega) h2)
        clear hbl2 hb2 k1 k2 k3 k4
        go_wp2_with fail
        go_roundw
        case rel =>
          exact ⟨_, unhide HN2⟩
        case measure =>
          rw [(unhide HN2).rd.atPos, (unhide HQ).rd.atPos]
          have := unhide HLe
          omega
      · have HC := hide (And.intro h1 h2)
        clear h1 h2
        unfold eofV
        obtain ⟨J, hJ⟩ : ∃ J, K + n = J := ⟨_, rfl⟩
        have hJ1 : (K : Int) + (n : Int) = (J : Int) := by omega
        have hJ2 : (J : Int) ≤ 2097152 := by omega
        have HJ := hide hJ
        clear hJ
        go_wp2_with fail
        refine (unhide HLen).mono ?_
        rintro e w' ⟨rfl, rfl⟩
        go_wp2_with fail
        refine (unhide HWr n (by omega)).mono ?_
        rintro e w2 ⟨rfl, hbl2, hb2⟩
        obtain ⟨k1, k2, k3, k4⟩ := unhide HNx w2 hb2
        clear b1 b2 b3 b4 b5 e0 e1
        obtain ⟨b1, b2, b3, b4, b5⟩ := k4.eqs
        have e0 := k4.e
        have e1 := k4.f
        unfold eofV at e0
        unfold fullV at e1
        have HK3 := hide k3
        have HEr : Hid (Calls Tryf.prog 26 #[.pointer (some ⟨pb, 0, none⟩), .int .i64 k, .string fmtNot, .slice none 0 0] w2 (GivesErr w2)) := hide (perrorf_any F pb rb name L _ k w2 (by rw [k3.tape]; exact unhide HFt) k2)
        unfold fmtNot at HEr
        clear hbl2 hb2 k1 k2 k3 k4
        go_wp2_with fail
        refine (unhide HEr).mono ?_
        rintro e w3 ⟨v, rfl, hb3⟩
        have HB3 := hide hb3
        clear hb3
        go_wp2_with fail
        refine unhide HTr _ _ ⟨(unhide HK3).trans (Tch.of_below (unhide HB3)), .inr ⟨v, ?_, rfl⟩⟩
        obtain ⟨q1, q2⟩ := unhide HC
        intro k h1 h2
        by_cases hk : k < q
        · exact (unhide HQ).no k h1 hk
        · exact q2 k (by omega) (by omega)
end Go.Proofs.Qxb6614301aFmt
