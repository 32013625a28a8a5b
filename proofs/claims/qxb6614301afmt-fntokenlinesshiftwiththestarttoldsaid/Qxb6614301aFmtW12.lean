import Derived.Test.Qxb6614301aFmtW11
namespace Go.Proofs.Qxb6614301aFmt
open Go.RowKit
open Go.Extern.Stop Go.Stop Go.Extern

def tokV (L : Int) (t : Tk) : Value := .agg #[.int .u8 (t.kind.toNat : Int), .string ⟨t.text.toArray⟩, .int .i64 (wrap64 (L + (t.line : Int)))]
/-- What token leaves. -/
def TPost (ea : Addr) (pb rb sb bb : Nat) (name s : ByteArray) (L : Int) (p : Nat) (w : World) (e : Ending) (w' : World) : Prop :=
  Tch [pb, rb, sb, bb] w w' ∧
  ((tokF s p = none ∧ ∃ v, e = .returned (.tuple #[.agg #[.int .u8 0, .string ⟨#[]⟩, .int .i64 0], .iface 100 v])) ∨
   (∃ t, tokF s p = some t ∧ e = .returned (.tuple #[tokV L t, .nilIface]) ∧ RD ea rb sb bb s t.pos w' ∧ PB pb rb name L (cnt s t.pos) w'))
/-- The state of token's loop. -/
structure TS (ea fa : Addr) (pb rb sb bb : Nat) (name s : ByteArray) (L : Int) (p q : Nat) (w wr : World) : Prop where
  rd : RD ea rb sb bb s q wr
  pa : PB pb rb name L (cnt s q) wr
  tk : tokF s q = tokF s p
  tc : Tch [pb, rb, sb, bb] w wr
  gl : Gl ea fa [pb, rb, sb, bb] wr

/-- The state of token's loop over a word that begins at q, read up to k. -/
structure WS (ea fa : Addr) (pb rb sb bb B : Nat) (name s : ByteArray) (L : Int) (q k : Nat) (bad : Bool) (v4 v5 : Value) (w wr : World) : Prop where
  le : q ≤ k
  pa : PB pb rb name L (cnt s q) wr
  bl : BL B B (seg s q (k - q)) wr
  en : wEnd s q k bad = wEnd s q q false
  tc : Tch [pb, rb, sb, bb] w wr
  gl : Gl ea fa [pb, rb, sb, bb] wr
  rd : (k < s.size ∧ v4 = .int .u8 ((byt s k).toNat : Int) ∧ v5 = .nilIface ∧ RU ea rb sb bb s (k + 1) wr) ∨ (k = s.size ∧ v4 = .int .u8 0 ∧ v5 = eofV ea ∧ RD ea rb sb bb s k wr)

def mW (s : ByteArray) (rb sb : Nat) (v5 : Value) (wr : World) : Nat := match v5 with | .nilIface => s.size - atPos rb sb wr + 1 | _ => 0
theorem WS.mW {ea fa : Addr} {pb rb sb bb B : Nat} {name s : ByteArray} {L : Int} {q k : Nat} {bad : Bool} {v4 v5 : Value} {w wr : World} (h : WS ea fa pb rb sb bb B name s L q k bad v4 v5 w wr) : mW s rb sb v5 wr = s.size - k := by
  rcases h.rd with ⟨h1, _, rfl, h2⟩ | ⟨h1, _, rfl, h2⟩
  · unfold Qxb6614301aFmt.mW
    simp only
    rw [h2.rd.atPos]
    omega
  · unfold Qxb6614301aFmt.mW
    simp only [eofV]
    omega
theorem Tch.thenBelow {S : List Nat} {B : Nat} {a b c : World} (h : Tch S a b) (hb : Below B b c) (hB : a.heap.size ≤ B) : Tch S a c :=
  ⟨hb.os.trans h.os, hb.tape.trans h.tape, hb.output.trans h.output, Nat.le_trans h.size hb.size, fun i hi hn => (hb.block i (by omega)).trans (h.block i hi hn)⟩
theorem RU.keep {ea : Addr} {rb sb bb : Nat} {s : ByteArray} {p : Nat} {w w' : World} (h : RU ea rb sb bb s p w) (hk : ∀ k, k = rb ∨ k = sb ∨ k = bb → w'.heap[k]? = w.heap[k]?) : RU ea rb sb bb s p w' := by
  obtain ⟨r, W, e, lb, ⟨i, lrs, pr, bs, h1, h2, h3, h4⟩, he⟩ := h
  exact ⟨r, W, e, lb, ⟨i, lrs, pr, bs, (hk rb (.inl rfl)).trans h1, (hk sb (.inr (.inl rfl))).trans h2, (hk bb (.inr (.inr rfl))).trans h3, h4⟩, he⟩
theorem inw_false {c : UInt8} (h : inw c = false) : spc c = true ∨ (spc c = false ∧ (c = 10 ∨ c = 91 ∨ c = 93 ∨ c = 34)) := by
  unfold inw at h
  cases hs : spc c
  · rw [hs] at h
    simp only [Bool.not_false, Bool.true_and, Bool.and_eq_false_iff, bne_eq_false_iff_eq] at h
    refine .inr ⟨rfl, ?_⟩
    rcases h with ((h | h) | h) | h
    · exact .inl h
    · exact .inr (.inl h)
    · exact .inr (.inr (.inl h))
    · exact .inr (.inr (.inr h))
  · exact .inl rfl
theorem inw_true {c : UInt8} (h : inw c = true) : spc c = false ∧ (c == 10) = false ∧ (c == 91) = false ∧ (c == 93) = false ∧ (c == 34) = false := by
  unfold inw at h
  simp only [Bool.and_eq_true, Bool.not_eq_true', bne, Bool.not_eq_true'] at h
  exact ⟨h.1.1.1.1, h.1.1.1.2, h.1.1.2, h.1.2, h.2⟩
theorem wEnd_step {s : ByteArray} {q k : Nat} {bad : Bool} (hk : k < s.size) (hi : inw (byt s k) = true) (hb : (bad && decide (64 < k - q)) = false) : wEnd s q (k + 1) (bad || !keyc (byt s k)) = wEnd s q k bad := by
  conv => rhs; rw [wEnd_eq, if_pos hk, if_pos (by rw [hi, hb]; rfl)]
theorem wEnd_stop {s : ByteArray} {q k : Nat} {bad : Bool} (hk : k < s.size) (hb : (bad && decide (64 < k - q)) = true) : wEnd s q k bad = k := by
  rw [wEnd_eq, if_pos hk, if_neg (by rw [hb]; simp)]

theorem res_cells {N : Nat} {w : World} (h : w.heap[N]? = some (.cells #[.int .u8 0, .string ⟨#[]⟩, .int .i64 0] 45 (0, 0))) : w.cell? ⟨N, 0, none⟩ = some (.int .u8 0) ∧ w.cell? ⟨N, 1, none⟩ = some (.string ⟨#[]⟩) ∧ w.cell? ⟨N, 2, none⟩ = some (.int .i64 0) ∧ w.frozen? ⟨N, 0, none⟩ = false ∧ w.frozen? ⟨N, 1, none⟩ = false ∧ w.frozen? ⟨N, 2, none⟩ = false :=
  ⟨by simp [World.cell?, h], by simp [World.cell?, h], by simp [World.cell?, h], by simp [World.frozen?, h], by simp [World.frozen?, h], by simp [World.frozen?, h]⟩

theorem neq_ea (ea : Addr) (w : World) : (binOp .neq 29 (.iface 100 (.pointer (some ea))) (.iface 100 (.pointer (some ea)))).run Tryf.prog w = .ok (.bool false) w := by
  obtain ⟨i, hi, hcmp⟩ := Option.map_eq_some_iff.1 info100
  obtain ⟨te, hte, j, hj, hjs⟩ := under100
  simp only [binOp]
  simp [Op.equal, Op.maxDepth, run_equalIn_iface_ptr_same w 9998 ea Tryf.underlying29 hte hi hcmp hj]
/-- What the end of a word's reading leans on. -/
structure WZ (ea fa : Addr) (pb rb sb bb B N : Nat) (name s : ByteArray) (L : Int) (q E : Nat) (w wz : World) : Prop where
  rd : RD ea rb sb bb s E wz
  pa : PB pb rb name L (cnt s q) wz
  bl : BL B B (seg s q (E - q)) wz
  tc : Tch [pb, rb, sb, bb] w wz
  gl : Gl ea fa [pb, rb, sb, bb] wz
  sz : B < wz.heap.size
  lt : ∀ k ∈ [pb, rb, sb, bb, N], k < B
  rs : wz.heap[N]? = some (.cells #[.int .u8 0, .string ⟨#[]⟩, .int .i64 0] 45 (0, 0))
  w0 : w.heap.size ≤ B
def Fin (ea : Addr) (pb rb sb bb N : Nat) (name s : ByteArray) (L : Int) (q E : Nat) (w wz : World) : Prop :=
  RD ea rb sb bb s E wz ∧ PB pb rb name L (cnt s q) wz ∧ Tch [pb, rb, sb, bb] w wz ∧ wz.heap[N]? = some (.cells #[.int .u8 0, .string ⟨#[]⟩, .int .i64 0] 45 (0, 0))
theorem WZ.str {ea fa : Addr} {pb rb sb bb B N : Nat} {name s : ByteArray} {L : Int} {q E : Nat} {w wz : World} (h : WZ ea fa pb rb sb bb B N name s L q E w wz) (m : Nat) :
    Calls Tryf.prog 28 #[.pointer (some ⟨B, 0, none⟩)] (wz.drewN m) fun e w' => e = .returned (.string ⟨(seg s q (E - q)).toArray⟩) ∧ (w'.cell? ⟨pb, 2, none⟩ = some (.int .i64 (wrap64 (L + (cnt s q : Int)))) ∧ w'.cell? ⟨N, 0, none⟩ = some (.int .u8 0) ∧ w'.cell? ⟨N, 1, none⟩ = some (.string ⟨#[]⟩) ∧ w'.cell? ⟨N, 2, none⟩ = some (.int .i64 0) ∧ w'.frozen? ⟨N, 0, none⟩ = false ∧ w'.frozen? ⟨N, 1, none⟩ = false ∧ w'.frozen? ⟨N, 2, none⟩ = false) ∧ Hid (Fin ea pb rb sb bb N name s L q E w w') := by
  refine (string_any B B _ (wz.drewN m) h.bl (by have := h.sz; exact Nat.le_of_lt this)).mono ?_
  rintro e w' ⟨rfl, _, hbe⟩
  have hbe' : Below B wz w' := ⟨hbe.os, hbe.tape, hbe.output, hbe.size, hbe.block⟩
  have hr : w'.heap[N]? = _ := (hbe'.block N (h.lt N (by simp))).trans h.rs
  have hp : PB pb rb name L (cnt s q) w' := (hbe'.block pb (h.lt pb (by simp))).trans h.pa
  have hrd : RD ea rb sb bb s E w' := h.rd.keep (by
    rintro k hk
    exact hbe'.block k (h.lt k (by rcases hk with rfl | rfl | rfl <;> simp)))
  exact ⟨rfl, ⟨hp.cells.2.2.1, res_cells hr⟩, hide ⟨hrd, hp, h.tc.thenBelow hbe' h.w0, hr⟩⟩

theorem tok_end {s : ByteArray} {q : Nat} (h : ¬ q < s.size) : tokF s q = some ⟨0, [], cnt s q, q⟩ := by rw [tokF_eq, dif_neg h]
theorem tok_skip {s : ByteArray} {q : Nat} (h : q < s.size) (hc : byt s q = 10 ∨ spc (byt s q) = true) : tokF s q = tokF s (q + 1) := by rw [tokF_eq, dif_pos h, if_pos hc]
theorem tok_com {s : ByteArray} {q : Nat} (h : q < s.size) (hc : byt s q = 35) : tokF s q = tokF s (min (nxt s 10 (q + 1) + 1) s.size) := by
  rw [tokF_eq, dif_pos h, if_neg (by rw [hc]; decide), if_pos hc]
theorem tok_br {s : ByteArray} {q : Nat} (h : q < s.size) (hc : byt s q = 91 ∨ byt s q = 93) : tokF s q = some ⟨byt s q, [], cnt s q, q + 1⟩ := by
  rw [tokF_eq, dif_pos h, if_neg (by rcases hc with h | h <;> rw [h] <;> decide), if_neg (by rcases hc with h | h <;> rw [h] <;> decide), if_pos hc]
theorem tok_q {s : ByteArray} {q j : Nat} (h : q < s.size) (hc : byt s q = 34) (h1 : q + 1 ≤ j) (h2 : j < s.size) (h3 : byt s j = 34) (h4 : NoD s 34 (q + 1) j) : tokF s q = some ⟨34, seg s (q + 1) (j - (q + 1)), cnt s q, j + 1⟩ := by
  rw [tokF_eq, dif_pos h, if_neg (by rw [hc]; decide), if_neg (by rw [hc]; decide), if_neg (by rw [hc]; decide), if_pos hc, nxt_at h1 h2 h3 h4, if_pos h2]
theorem tok_qn {s : ByteArray} {q : Nat} (h : q < s.size) (hc : byt s q = 34) (h4 : NoD s 34 (q + 1) s.size) : tokF s q = none := by
  rw [tokF_eq, dif_pos h, if_neg (by rw [hc]; decide), if_neg (by rw [hc]; decide), if_neg (by rw [hc]; decide), if_pos hc, nxt_end h h4, if_neg (by omega)]
theorem tok_w {s : ByteArray} {q : Nat} (h : q < s.size) (h1 : byt s q ≠ 10) (h2 : spc (byt s q) = false) (h3 : byt s q ≠ 35) (h4 : byt s q ≠ 91) (h5 : byt s q ≠ 93) (h6 : byt s q ≠ 34) : tokF s q = some ⟨119, seg s q (wEnd s q q false - q), cnt s q, wEnd s q q false⟩ := by
  rw [tokF_eq, dif_pos h, if_neg (by rw [h2]; simp [h1]), if_neg h3, if_neg (by simp [h4, h5]), if_neg h6]

theorem Tch.fin {S : List Nat} {N : Nat} {w w0 w1 wf : World} (h0 : Tch [] w w0) (hN : w.heap.size = N) (h1 : Tch S w0 w1) (hf : Tch [N] w1 wf) : Tch S w wf :=
  ⟨hf.os.trans (h1.os.trans h0.os), hf.tape.trans (h1.tape.trans h0.tape), hf.output.trans (h1.output.trans h0.output), Nat.le_trans h0.size (Nat.le_trans h1.size hf.size), fun k hk hn =>
    (hf.block k (Nat.lt_of_lt_of_le hk (Nat.le_trans h0.size h1.size)) (by simp; omega)).trans ((h1.block k (Nat.lt_of_lt_of_le hk h0.size) hn).trans (h0.block k hk (by simp)))⟩
theorem notN {N pb rb sb bb : Nat} (h : N ∉ [pb, rb, sb, bb]) : pb ∉ [N] ∧ ∀ k, k = rb ∨ k = sb ∨ k = bb → k ∉ [N] := by
  simp only [List.mem_cons, List.not_mem_nil, or_false, not_or] at h
  refine ⟨by simp; omega, ?_⟩
  rintro k (rfl | rfl | rfl) <;> simp <;> omega
theorem res_set {N : Nat} {w : World} (h : w.heap[N]? = some (.cells #[.int .u8 0, .string ⟨#[]⟩, .int .i64 0] 45 (0, 0))) (a b c : Value) : (((w.setCell ⟨N, 0, none⟩ a).setCell ⟨N, 1, none⟩ b).setCell ⟨N, 2, none⟩ c).heap[N]? = some (.cells #[a, b, c] 45 (0, 0)) :=
  (set_block (set_block (set_block h a) b) c).trans (by simp)
theorem size45 : (Tryf.prog.info? 45).map (·.size) = some 3 := by kernel_rfl
theorem ret17 {tmps : Array Value} {w : World} {N : Nat} {a b c x : Value} (h2 : tmps.getD 2 undef = .pointer (some ⟨N, 0, none⟩)) (h3 : tmps.getD 3 undef = x) (hg : w.heap[N]? = some (.cells #[a, b, c] 45 (0, 0))) :
    (results Tryf.f17 tmps).run Tryf.prog w = .ok (.tuple #[.agg #[a, b, c], x]) w := by
  rw [results_cell_tmp (p := 2) (u := 3) (ty := 45) Tryf.results17, h2, h3]
  simp [asAddr, run_loadVar_row w N 45 45 #[a, b, c] (0, 0) _ hg Tryf.underlying45 rfl size45]
theorem ret17w {T : Ending → World → Prop} {act : Act} {N : Nat} {w : World} {a b c x : Value} (h2 : act.tmps.getD 2 undef = .pointer (some ⟨N, 0, none⟩)) (h3 : act.tmps.getD 3 undef = x) (hd : act.defers = []) (hg : w.heap[N]? = some (.cells #[.int .u8 0, .string ⟨#[]⟩, .int .i64 0] 45 (0, 0)))
    (h : T (.returned (.tuple #[.agg #[a, b, c], x])) (((w.setCell ⟨N, 0, none⟩ a).setCell ⟨N, 1, none⟩ b).setCell ⟨N, 2, none⟩ c)) : bodyPost Tryf.prog Tryf.f17 T .ret act (((w.setCell ⟨N, 0, none⟩ a).setCell ⟨N, 1, none⟩ b).setCell ⟨N, 2, none⟩ c) :=
  bodyPost_ret (ret17 h2 h3 (res_set hg a b c)) hd h
theorem tch3 {N : Nat} (w : World) (a b c : Value) : Tch [N] w (((w.setCell ⟨N, 0, none⟩ a).setCell ⟨N, 1, none⟩ b).setCell ⟨N, 2, none⟩ c) :=
  (((Tch.refl [N] w).setCell (by simp) _).setCell (by simp) _).setCell (by simp) _

set_option maxRecDepth 100000 in
set_option maxHeartbeats 4000000 in
theorem token_any (F : Interp) (ea fa : Addr) (pb rb sb bb : Nat) (name s : ByteArray) (L : Int) (p : Nat) (w : World) (hF : F.answers w.tape) (h : RD ea rb sb bb s p w) (hp : PB pb rb name L (cnt s p) w) (hs : s.size ≤ 2097152) (hg : Gl ea fa [pb, rb, sb, bb] w) :
    Calls Tryf.prog 17 #[.pointer (some ⟨pb, 0, none⟩)] w (TPost ea pb rb sb bb name s L p w) := by
  generalize hT : TPost ea pb rb sb bb name s L p w = T
  have hTr : ∀ (e : Ending) (w' : World), TPost ea pb rb sb bb name s L p w e w' → T e w' := fun e w' h => by rw [← hT]; exact h
  have HTr := hide hTr
  have HNe := hide (pb_ne hp h)
  obtain ⟨lr, ls, lb⟩ := h.lts
  have lp := hp.lt
  have HFt := hide hF
  obtain ⟨w0, hw0⟩ : ∃ w0, w.alloc (.cells #[.int .u8 0, .string ⟨#[]⟩, .int .i64 0] 45 (0, 0)) = w0 := ⟨_, rfl⟩
  obtain ⟨N, hN⟩ : ∃ N, w.heap.size = N := ⟨_, rfl⟩
  have HT0 : Hid (Tch [] w w0 ∧ w0.heap[N]? = some (.cells #[.int .u8 0, .string ⟨#[]⟩, .int .i64 0] 45 (0, 0)) ∧ N ∉ [pb, rb, sb, bb]) := hide (by
    rw [← hw0, ← hN]
    refine ⟨(Tch.refl [] w).alloc _, ?_, ?_⟩
    · show (w.heap.push _)[w.heap.size]? = _
      simp
    · simp; omega)
  have HI : Hid (TS ea fa pb rb sb bb name s L p p w0 w0) := hide (by
    have ht := (unhide HT0).1
    exact ⟨h.tch ht (by simp), hp.tch ht (by simp), rfl, Tch.refl _ _, hg.tch (ht.mono (by simp))⟩)
  have HI0 := HI
  clear h hp hg hT hTr hF
  go_enter Tryf.func17, Tryf.ntmps17
  go_wp2_with fail
  go_loopw [] (fun wr => ∃ q, TS ea fa pb rb sb bb name s L p q w0 wr) (fun wr => s.size - atPos rb sb wr)
  case atStart => exact ⟨p, unhide HI⟩
  case round =>
    obtain ⟨q, hq⟩ := hrel
    obtain ⟨c0, c1, c2, f2⟩ := hq.pa.cells
    have HQ := hide hq
    clear hq HI hw0
    go_wp2_with fail
    refine (readByte_any ea rb sb bb s q wr (unhide HQ).rd hs (unhide HQ).gl.e ((unhide HQ).gl.sub (T := [rb, sb, bb]) (by simp)).z0).mono ?_
    rintro e w1 (⟨hlt, rfl, hru, ht1⟩ | ⟨heq, rfl, hrd, ht1⟩)
    · have ht1' : Tch [pb, rb, sb, bb] wr w1 := ht1.mono (fun k hk => List.mem_cons_of_mem _ hk)
      have hpa1 := (unhide HQ).pa.tch ht1 (unhide HNe)
      have hgl1 := (unhide HQ).gl.tch ht1'
      obtain ⟨d0, d1, d2, g2⟩ := hpa1.cells
      have htc := (unhide HQ).tc.trans ht1'
      obtain ⟨r0, r1, r2, x0, x1, x2⟩ := res_cells (htc.at (unhide HT0).2.1 (unhide HT0).2.2)
      obtain ⟨b1, b2, b3, b4, b5⟩ := hgl1.eqs
      have e0 := hgl1.e
      unfold eofV at e0
      have HPa := hide hpa1
      have HTc := hide htc
      have HRu := hide hru
      have HGl := hide hgl1
      have hbc := bcell_byt s q
      obtain ⟨cc, hcc⟩ : ∃ cc, byt s q = cc := ⟨_, rfl⟩
      rw [hcc] at hbc
      have HC := hide hcc
      have HSp : Hid (Calls Tryf.prog 22 #[.int .u8 (cc.toNat : Int)] w1 fun e w' => e = .returned (.bool (spc cc)) ∧ w' = w1) := hide (isSpace_any cc w1)
      have HFt1 : Hid (F.answers w1.tape) := hide (by rw [htc.tape, (unhide HT0).1.tape]; exact unhide HFt)
      rw [hbc]
      clear ht1 ht1' hpa1 hgl1 htc hru c0 c1 c2 f2 hcc hbc
      by_cases h10 : cc = 10
      · have j10 : ((cc.toNat : Int) == 10) = true := by subst h10; rfl
        have HN2 : Hid (TS ea fa pb rb sb bb name s L p (q + 1) w0 (w1.setCell ⟨pb, 2, none⟩ (.int .i64 (wrap64 (wrap64 (L + (cnt s q : Int)) + 1))))) := hide (by
          have ht : Tch [pb] w1 (w1.setCell ⟨pb, 2, none⟩ (.int .i64 (wrap64 (wrap64 (L + (cnt s q : Int)) + 1)))) := (Tch.refl _ _).setCell (by simp) _
          have hne := unhide HNe
          simp only [List.mem_cons, List.not_mem_nil, or_false, not_or] at hne
          have ht2 : Tch [pb, rb, sb, bb] w1 _ := ht.mono (by simp_all)
          have hc : byt s q = 10 := by rw [unhide HC, h10]
          refine ⟨(unhide HRu).rd.tch ht (by rintro k (rfl | rfl | rfl) <;> simp <;> omega), ?_, ?_, (unhide HTc).trans ht2, (unhide HGl).tch ht2⟩
          · rw [cnt_nl hc]
            exact (unhide HPa).inc (k := 1)
          · rw [← (unhide HQ).tk]
            exact (tok_skip hlt (.inl hc)).symm)
        clear h10
        go_wp2_with fail
        go_roundw
        case rel => exact ⟨_, unhide HN2⟩
        case measure =>
          rw [(unhide HN2).rd.atPos, (unhide HQ).rd.atPos]
          omega
      · have j10 : ((cc.toNat : Int) == 10) = false := (u8_beq cc 10).trans (by simpa using h10)
        have HNn : Hid (RD ea rb sb bb s (q + 1) w1 ∧ PB pb rb name L (cnt s (q + 1)) w1) := hide ⟨(unhide HRu).rd, by
          rw [cnt_no (by rw [unhide HC]; exact h10)]
          exact unhide HPa⟩
        cases hsp : spc cc
        · rw [hsp] at HSp
          by_cases h35 : cc = 35
          · have j35 : ((cc.toNat : Int) == 35) = true := by subst h35; rfl
            have hc : byt s q = 35 := by rw [unhide HC, h35]
            have HCd := hide hc
            clear h10 h35 hc hsp
            go_wp2_with fail
            refine (unhide HSp).mono ?_
            rintro e w' ⟨rfl, rfl⟩
            go_wp2_with fail
            refine (skipComment_any ea fa pb rb sb bb name s L _ (q + 1) w' (unhide HNn).1 (unhide HNn).2 hs ((unhide HGl).sub (by simp_all))).mono ?_
            rintro e w2 ⟨rfl, ht2, hcase⟩
            have HN2 : Hid (∃ z, q < z ∧ TS ea fa pb rb sb bb name s L p z w0 w2) := hide (by
              have hgl2 := (unhide HGl).tch ht2
              have htc2 := (unhide HTc).trans ht2
              rcases hcase with ⟨j, k1, k2, k3, k4, k5, k6⟩ | ⟨k4, k5, k6⟩
              · refine ⟨j + 1, by omega, k5, ?_, ?_, htc2, hgl2⟩
                · rw [cnt_nl k3, cnt_noD k1 k4]
                  exact k6
                · rw [← (unhide HQ).tk, tok_com hlt (unhide HCd), nxt_at k1 k2 k3 k4, Nat.min_eq_left (by omega)]
              · refine ⟨s.size, hlt, k5, ?_, ?_, htc2, hgl2⟩
                · rw [cnt_noD hlt k4]
                  exact k6
                · rw [← (unhide HQ).tk, tok_com hlt (unhide HCd), nxt_end hlt k4, Nat.min_eq_right (by omega)])
            clear ht2 hcase
            go_wp2_with fail
            go_roundw
            case rel => obtain ⟨z, _, hz⟩ := unhide HN2; exact ⟨z, hz⟩
            case measure =>
              obtain ⟨z, hz1, hz⟩ := unhide HN2
              rw [hz.rd.atPos, (unhide HQ).rd.atPos]
              omega
          · have j35 : ((cc.toNat : Int) == 35) = false := (u8_beq cc 35).trans (by simpa using h35)
            by_cases h9 : cc = 91 ∨ cc = 93
            · have htok : tokF s p = some ⟨cc, [], cnt s q, q + 1⟩ := by
                rw [← (unhide HQ).tk, tok_br hlt (by rw [unhide HC]; exact h9), unhide HC]
              have HTok := hide htok
              have j91 : ((cc.toNat : Int) == 91) = (cc == 91) := u8_beq cc 91
              have j93 : ((cc.toNat : Int) == 93) = (cc == 93) := u8_beq cc 93
              rcases h9 with rfl | rfl
              · clear h10 h35 htok j91 j93
                go_wp2_with fail
                refine (unhide HSp).mono ?_
                rintro e w' ⟨rfl, rfl⟩
                go_wp2_with fail
                exact ret17w (N := N) rfl rfl rfl ((unhide HTc).at (unhide HT0).2.1 (unhide HT0).2.2) (unhide HTr _ _ ⟨(unhide HT0).1.fin hN (unhide HTc) (tch3 _ _ _ _), .inr ⟨_, unhide HTok, rfl, (unhide HNn).1.tch (tch3 _ _ _ _) (notN (unhide HT0).2.2).2, (unhide HNn).2.tch (tch3 _ _ _ _) (notN (unhide HT0).2.2).1⟩⟩)
              · clear h10 h35 htok j91 j93
                go_wp2_with fail
                refine (unhide HSp).mono ?_
                rintro e w' ⟨rfl, rfl⟩
                go_wp2_with fail
                exact ret17w (N := N) rfl rfl rfl ((unhide HTc).at (unhide HT0).2.1 (unhide HT0).2.2) (unhide HTr _ _ ⟨(unhide HT0).1.fin hN (unhide HTc) (tch3 _ _ _ _), .inr ⟨_, unhide HTok, rfl, (unhide HNn).1.tch (tch3 _ _ _ _) (notN (unhide HT0).2.2).2, (unhide HNn).2.tch (tch3 _ _ _ _) (notN (unhide HT0).2.2).1⟩⟩)
            · have h91 : ¬ cc = 91 := fun h => h9 (.inl h)
              have h93 : ¬ cc = 93 := fun h => h9 (.inr h)
              have j91 : ((cc.toNat : Int) == 91) = false := (u8_beq cc 91).trans (by simpa using h91)
              have j93 : ((cc.toNat : Int) == 93) = false := (u8_beq cc 93).trans (by simpa using h93)
              by_cases h34 : cc = 34
              · have j34 : ((cc.toNat : Int) == 34) = true := by subst h34; rfl
                have hc : byt s q = 34 := by rw [unhide HC, h34]
                have HCd := hide hc
                clear h10 h35 hc hsp h9 h91 h93 h34
                go_wp2_with fail
                refine (unhide HSp).mono ?_
                rintro e w' ⟨rfl, rfl⟩
                go_wp2_with fail
                refine (quoted_any F ea fa pb rb sb bb name s L (q + 1) _ w' (unhide HFt1) (unhide HNn).1 (unhide HNn).2 hs (unhide HGl)).mono ?_
                rintro e w2 ⟨ht2, ⟨j, k1, k2, k3, k4, rfl, k5, k6⟩ | ⟨v, k4, rfl⟩⟩
                · have htc2 := (unhide HTc).trans ht2
                  clear r0 r1 r2 x0 x1 x2
                  obtain ⟨r0, r1, r2, x0, x1, x2⟩ := res_cells (htc2.at (unhide HT0).2.1 (unhide HT0).2.2)
                  have HTc2 := hide htc2
                  have HK := hide (And.intro k4 (And.intro k5 k6))
                  clear htc2 ht2 k4 k5 k6
                  go_wp2_with fail
                  obtain ⟨k4, k5, k6⟩ := unhide HK
                  refine ret17w (N := N) rfl rfl rfl ((unhide HTc2).at (unhide HT0).2.1 (unhide HT0).2.2) (unhide HTr _ _ ⟨(unhide HT0).1.fin hN (unhide HTc2) (tch3 _ _ _ _), .inr ⟨⟨34, seg s (q + 1) (j - (q + 1)), cnt s q, j + 1⟩, ?_, rfl, k5.tch (tch3 _ _ _ _) (notN (unhide HT0).2.2).2, k6.tch (tch3 _ _ _ _) (notN (unhide HT0).2.2).1⟩⟩)
                  rw [← (unhide HQ).tk]
                  exact tok_q hlt (unhide HCd) k1 k2 k3 k4
                · have htc2 := (unhide HTc).trans ht2
                  clear r0 r1 r2 x0 x1 x2
                  obtain ⟨r0, r1, r2, x0, x1, x2⟩ := res_cells (htc2.at (unhide HT0).2.1 (unhide HT0).2.2)
                  have HTc2 := hide htc2
                  have HK := hide k4
                  clear htc2 ht2 k4
                  go_wp2_with fail
                  refine ret17w (N := N) rfl rfl rfl ((unhide HTc2).at (unhide HT0).2.1 (unhide HT0).2.2) (unhide HTr _ _ ⟨(unhide HT0).1.fin hN (unhide HTc2) (tch3 _ _ _ _), .inl ⟨?_, v, rfl⟩⟩)
                  rw [← (unhide HQ).tk]
                  exact tok_qn hlt (unhide HCd) (unhide HK)
              · have j34 : ((cc.toNat : Int) == 34) = false := (u8_beq cc 34).trans (by simpa using h34)
                have HTok : Hid (tokF s p = some ⟨119, seg s q (wEnd s q q false - q), cnt s q, wEnd s q q false⟩) := hide (by
                  rw [← (unhide HQ).tk]
                  have hc := unhide HC
                  exact tok_w hlt (by rw [hc]; exact h10) (by rw [hc]; exact hsp) (by rw [hc]; exact h35) (by rw [hc]; exact h91) (by rw [hc]; exact h93) (by rw [hc]; exact h34))
                obtain ⟨B, hB⟩ : ∃ B, w1.heap.size = B := ⟨_, rfl⟩
                obtain ⟨w2, hw2⟩ : ∃ w2, w1.alloc (.cells #[.pointer none, .slice none 0 0] 62 (0, 0)) = w2 := ⟨_, rfl⟩
                have HT2 : Hid (Tch [] w1 w2 ∧ BL B B [] w2 ∧ w2.heap.size = B + 1 ∧ (∀ k ∈ [pb, rb, sb, bb, N], k < B)) := hide (by
                  rw [← hw2]
                  refine ⟨(Tch.refl [] w1).alloc _, BL.fresh hB.symm, ?_, ?_⟩
                  · rw [← hB]; show (w1.heap.push _).size = _; simp
                  · have h1 := (unhide HTc).size
                    have h2 := (unhide HT0).1.size
                    have h3 : N < w0.heap.size := (Array.getElem?_eq_some_iff.1 (unhide HT0).2.1).1
                    intro k hk
                    simp only [List.mem_cons, List.not_mem_nil, or_false] at hk
                    rcases hk with rfl | rfl | rfl | rfl | rfl <;> omega)
                have HW0 : Hid (WS ea fa pb rb sb bb B name s L q q false (.int .u8 (cc.toNat : Int)) .nilIface w0 w2) := hide (by
                  have ht := (unhide HT2).1
                  refine ⟨Nat.le_refl _, (unhide HPa).tch ht (by simp), ?_, rfl, (unhide HTc).trans (ht.mono (by simp)), (unhide HGl).tch (ht.mono (by simp)), .inl ⟨hlt, by rw [unhide HC], rfl, (unhide HRu).tch ht (by simp)⟩⟩
                  rw [Nat.sub_self]
                  exact (unhide HT2).2.1)
                clear h10 h35 hsp h9 h91 h93 h34
                go_wp2_with fail
                refine (unhide HSp).mono ?_
                rintro e w' ⟨rfl, rfl⟩
                go_upto_block 3 with fail
                go_cut [4, 5, 11] from 12 to 172 (fun v4 v5 v11 wx => ∃ bad, v11 = .bool bad ∧ WS ea fa pb rb sb bb B name s L q (wEnd s q q false) bad v4 v5 w0 wx ∧ B < wx.heap.size)
                case first =>
                  go_wp2_with fail
                  go_loopw [4, 5, 11] (fun v4 v5 v11 wr => ∃ k bad, v11 = .bool bad ∧ WS ea fa pb rb sb bb B name s L q k bad v4 v5 w0 wr ∧ B < wr.heap.size) (fun _ v5 _ wr => mW s rb sb v5 wr)
                  case atStart => exact ⟨q, false, rfl, unhide HW0, by rw [(unhide HT2).2.2.1]; omega⟩
                  case round =>
                    obtain ⟨k, bad, rfl, hws, hBs⟩ := hrel
                    obtain ⟨c0, c1, c2, f2⟩ := hws.pa.cells
                    obtain ⟨b1, b2, b3, b4, b5⟩ := hws.gl.eqs
                    have HWs := hide hws
                    have HBs := hide hBs
                    rcases hws.rd with ⟨hk, rfl, rfl, hru⟩ | ⟨hk, rfl, rfl, hrd⟩
                    · obtain ⟨dd, hdd⟩ : ∃ dd, byt s k = dd := ⟨_, rfl⟩
                      rw [hdd]
                      have HD := hide hdd
                      have HSp2 : Hid (Calls Tryf.prog 22 #[.int .u8 (dd.toNat : Int)] wr fun e w' => e = .returned (.bool (spc dd)) ∧ w' = wr) := hide (isSpace_any dd wr)
                      clear hws hru hdd HSp HW0 hBs
                      have i10 : ((dd.toNat : Int) == 10) = (dd == 10) := u8_beq dd 10
                      have i91 : ((dd.toNat : Int) == 91) = (dd == 91) := u8_beq dd 91
                      have i93 : ((dd.toNat : Int) == 93) = (dd == 93) := u8_beq dd 93
                      have i34 : ((dd.toNat : Int) == 34) = (dd == 34) := u8_beq dd 34
                      have HOut : Hid (inw dd = false → WS ea fa pb rb sb bb B name s L q (wEnd s q q false) bad (.int .u8 (dd.toNat : Int)) .nilIface w0 wr ∧ B < wr.heap.size) := hide (fun hi => by
                        have h := unhide HWs
                        have he : wEnd s q q false = k := by
                          rw [← h.en, wEnd_eq, if_pos hk, if_neg (by rw [unhide HD, hi]; simp)]
                        rw [he]
                        rw [unhide HD] at h
                        exact ⟨h, unhide HBs⟩)
                      cases hin : inw dd with
                      | false =>
                        have HI := hide hin
                        rcases inw_false hin with hsp2 | ⟨hsp2, hdd⟩
                        · rw [hsp2] at HSp2
                          clear hin hsp2 i10 i91 i93 i34
                          go_wp2_with fail
                          refine (unhide HSp2).mono ?_
                          rintro e w' ⟨rfl, rfl⟩
                          go_wp2_with fail
                          go_meet
                          exact ⟨bad, rfl, unhide HOut (unhide HI)⟩
                        · rw [hsp2] at HSp2
                          rcases hdd with rfl | rfl | rfl | rfl
                          all_goals
                            clear hin hsp2 i10 i91 i93 i34
                            go_wp2_with fail
                            refine (unhide HSp2).mono ?_
                            rintro e w' ⟨rfl, rfl⟩
                            go_wp2_with fail
                            go_meet
                            exact ⟨bad, rfl, unhide HOut (unhide HI)⟩
                      | true =>
                        obtain ⟨hsp2, h10', h91', h93', h34'⟩ := inw_true hin
                        rw [h10'] at i10
                        rw [h91'] at i91
                        rw [h93'] at i93
                        rw [h34'] at i34
                        have m10 : ((dd.toNat : Int) != 10) = true := by rw [bne, i10]; rfl
                        have m91 : ((dd.toNat : Int) != 91) = true := by rw [bne, i91]; rfl
                        have m93 : ((dd.toNat : Int) != 93) = true := by rw [bne, i93]; rfl
                        have m34 : ((dd.toNat : Int) != 34) = true := by rw [bne, i34]; rfl
                        rw [hsp2] at HSp2
                        obtain ⟨K, hK⟩ : ∃ K, k - q = K := ⟨_, rfl⟩
                        have hK2 : K ≤ 2097152 := by omega
                        have hK3 : (K : Int) ≤ 2097152 := by omega
                        have HLen : Hid (Calls Tryf.prog 25 #[.pointer (some ⟨B, 0, none⟩)] wr fun e w' => e = .returned (.int .i64 (K : Nat)) ∧ w' = wr) := hide (by
                          have := len_any B B (seg s q K) wr (by rw [← hK]; exact (unhide HWs).bl)
                          rwa [seg_len] at this)
                        have HKey : Hid (Calls Tryf.prog 29 #[.int .u8 (dd.toNat : Int)] wr fun e w' => e = .returned (.bool (keyc dd)) ∧ w' = wr) := hide (inKey_any dd wr)
                        have hBs' := unhide HBs
                        have HWb : Hid (Calls Tryf.prog 30 #[.pointer (some ⟨B, 0, none⟩), .int .u8 (dd.toNat : Int)] wr fun e w' => e = .returned .nilIface ∧ BL B B (seg s q (K + 1)) w' ∧ Below B wr w') := hide (by
                          have := writeByte_any B B (seg s q K) dd wr (by rw [← hK]; exact (unhide HWs).bl) (by rw [seg_len]; omega) (by omega)
                          have e1 : seg s q K ++ [dd] = seg s q (K + 1) := by
                            rw [seg_append, seg_one, ← unhide HD]
                            have := (unhide HWs).le
                            rw [show q + K = k by omega]
                          rwa [e1] at this)
                        have HNext : Hid ((bad && decide (64 < k - q)) = false → ∀ w3, BL B B (seg s q (K + 1)) w3 → Below B wr w3 → Calls Tryf.prog 20 #[.pointer (some ⟨rb, 0, none⟩)] w3 fun e w4 => ∃ v4 v5, e = .returned (.tuple #[v4, v5]) ∧ WS ea fa pb rb sb bb B name s L q (k + 1) (bad || !keyc dd) v4 v5 w0 w4 ∧ B < w4.heap.size) := hide (fun hb w3 hbl hbe => by
                          have h := unhide HWs
                          have hru : RU ea rb sb bb s (k + 1) wr := by
                            rcases h.rd with ⟨_, _, _, h⟩ | ⟨h, _⟩
                            · exact h
                            · omega
                          have hlts : ∀ k ∈ [pb, rb, sb, bb, N], k < B := (unhide HT2).2.2.2
                          have hkeep : ∀ i, i = rb ∨ i = sb ∨ i = bb → w3.heap[i]? = wr.heap[i]? := by
                            intro i hi
                            refine hbe.block i (hlts i ?_)
                            rcases hi with rfl | rfl | rfl <;> simp
                          have hw0B : w0.heap.size ≤ B := by have := (unhide HTc).size; omega
                          have htc3 : Tch [pb, rb, sb, bb] w0 w3 := h.tc.thenBelow hbe hw0B
                          have hgl3 : Gl ea fa [pb, rb, sb, bb] w3 := (unhide HI0).gl.tch htc3
                          have hpa3 : PB pb rb name L (cnt s q) w3 := (hbe.block pb (hlts pb (by simp))).trans h.pa
                          refine (readByte_any ea rb sb bb s (k + 1) w3 (hru.keep hkeep).rd hs hgl3.e (hgl3.sub (T := [rb, sb, bb]) (by simp)).z0).mono ?_
                          have hen : wEnd s q (k + 1) (bad || !keyc dd) = wEnd s q q false := by
                            rw [← h.en, ← unhide HD]
                            exact wEnd_step hk (by rw [unhide HD]; exact hin) hb
                          have hsz := hbe.size
                          have hlt3 : ∀ i ∈ [rb, sb, bb], i < B := fun i hi => hlts i (by simp only [List.mem_cons, List.not_mem_nil, or_false] at hi ⊢; omega)
                          rintro e w4 (⟨hlt4, rfl, hru4, ht4⟩ | ⟨heq4, rfl, hrd4, ht4⟩)
                          · have ht4' : Tch [pb, rb, sb, bb] w3 w4 := ht4.mono (fun k hk => List.mem_cons_of_mem _ hk)
                            have hsz4 := ht4.size
                            refine ⟨_, _, rfl, ⟨by have := h.le; omega, hpa3.tch ht4 (unhide HNe), ?_, hen, htc3.trans ht4', hgl3.tch ht4', .inl ⟨hlt4, rfl, rfl, hru4⟩⟩, by omega⟩
                            rw [show k + 1 - q = K + 1 by have := h.le; omega]
                            exact hbl.tch ht4 hlt3
                          · have ht4' : Tch [pb, rb, sb, bb] w3 w4 := ht4.mono (fun k hk => List.mem_cons_of_mem _ hk)
                            have hsz4 := ht4.size
                            refine ⟨_, _, rfl, ⟨by have := h.le; omega, hpa3.tch ht4 (unhide HNe), ?_, hen, htc3.trans ht4', hgl3.tch ht4', .inr ⟨heq4, rfl, rfl, hrd4⟩⟩, by omega⟩
                            rw [show k + 1 - q = K + 1 by have := h.le; omega]
                            exact hbl.tch ht4 hlt3)
                        have HPl : Hid (∀ w3, Below B wr w3 → w3.cell? ⟨pb, 1, none⟩ = some (.pointer (some ⟨rb, 0, none⟩))) := hide (fun w3 hbe => by
                          have hpa3 : PB pb rb name L (cnt s q) w3 := (hbe.block pb ((unhide HT2).2.2.2 pb (by simp))).trans (unhide HWs).pa
                          exact hpa3.cells.2.1)
                        have HK := hide hK
                        have HIn := hide hin
                        clear hin hK h10' h91' h93' h34' hsp2
                        cases bad with
                        | false =>
                          go_wp2_with fail
                          refine (unhide HSp2).mono ?_
                          rintro e w' ⟨rfl, rfl⟩
                          go_wp2_with fail
                          refine (unhide HLen).mono ?_
                          rintro e w' ⟨rfl, rfl⟩
                          go_wp2_with fail
                          refine (unhide HKey).mono ?_
                          rintro e w' ⟨rfl, rfl⟩
                          go_wp2_with fail
                          refine (unhide HWb).mono ?_
                          rintro e w3 ⟨rfl, hbl3, hbe3⟩
                          have hpl := unhide HPl w3 hbe3
                          have HNx : Hid (Calls Tryf.prog 20 #[.pointer (some ⟨rb, 0, none⟩)] w3 fun e w4 => ∃ v4 v5, e = .returned (.tuple #[v4, v5]) ∧ WS ea fa pb rb sb bb B name s L q (k + 1) (false || !keyc dd) v4 v5 w0 w4 ∧ B < w4.heap.size) := hide (unhide HNext rfl w3 hbl3 hbe3)
                          clear hbl3 hbe3
                          go_wp2_with fail
                          refine (unhide HNx).mono ?_
                          rintro e w4 ⟨v4, v5, rfl, hws4, hB4⟩
                          have HW4 := hide hws4
                          have HB4 := hide hB4
                          clear hws4 hB4
                          go_wp2_with fail
                          go_roundw
                          case rel => exact ⟨k + 1, _, rfl, unhide HW4, unhide HB4⟩
                          case measure =>
                            rw [(unhide HW4).mW, (unhide HWs).mW]
                            omega
                        | true =>
                          by_cases h64 : 64 < K
                          · have h64' : decide ((64 : Int) < (K : Int)) = true := decide_eq_true (by omega)
                            have HH := hide h64
                            clear h64
                            go_wp2_with fail
                            refine (unhide HSp2).mono ?_
                            rintro e w' ⟨rfl, rfl⟩
                            go_wp2_with fail
                            refine (unhide HLen).mono ?_
                            rintro e w' ⟨rfl, rfl⟩
                            go_wp2_with fail
                            go_meet
                            refine ⟨true, rfl, ?_⟩
                            have h := unhide HWs
                            have he : wEnd s q q false = k := by
                              rw [← h.en]
                              exact wEnd_stop hk (by rw [unhide HK]; simpa using unhide HH)
                            rw [he]
                            rw [unhide HD] at h
                            exact ⟨h, unhide HBs⟩
                          · have h64' : decide ((64 : Int) < (K : Int)) = false := decide_eq_false (by omega)
                            have HH := hide h64
                            clear h64
                            go_wp2_with fail
                            refine (unhide HSp2).mono ?_
                            rintro e w' ⟨rfl, rfl⟩
                            go_wp2_with fail
                            refine (unhide HLen).mono ?_
                            rintro e w' ⟨rfl, rfl⟩
                            go_wp2_with fail
                            refine (unhide HLen).mono ?_
                            rintro e w' ⟨rfl, rfl⟩
                            go_wp2_with fail
                            refine (unhide HWb).mono ?_
                            rintro e w3 ⟨rfl, hbl3, hbe3⟩
                            have hpl := unhide HPl w3 hbe3
                            have HNx : Hid (Calls Tryf.prog 20 #[.pointer (some ⟨rb, 0, none⟩)] w3 fun e w4 => ∃ v4 v5, e = .returned (.tuple #[v4, v5]) ∧ WS ea fa pb rb sb bb B name s L q (k + 1) (true || !keyc dd) v4 v5 w0 w4 ∧ B < w4.heap.size) := hide (unhide HNext (by rw [unhide HK]; simpa using unhide HH) w3 hbl3 hbe3)
                            clear hbl3 hbe3
                            go_wp2_with fail
                            refine (unhide HNx).mono ?_
                            rintro e w4 ⟨v4, v5, rfl, hws4, hB4⟩
                            have HW4 := hide hws4
                            have HB4 := hide hB4
                            clear hws4 hB4
                            go_wp2_with fail
                            go_roundw
                            case rel => exact ⟨k + 1, _, rfl, unhide HW4, unhide HB4⟩
                            case measure =>
                              rw [(unhide HW4).mW, (unhide HWs).mW]
                              omega
                    · have HOut : Hid (WS ea fa pb rb sb bb B name s L q (wEnd s q q false) bad (.int .u8 0) (eofV ea) w0 wr ∧ B < wr.heap.size) := hide (by
                        have he : wEnd s q q false = k := by
                          rw [← hws.en, wEnd_eq, if_neg (by omega)]
                        rw [he]
                        exact ⟨hws, hBs⟩)
                      unfold eofV
                      clear hws hrd HSp HW0 hBs
                      go_wp2_with fail
                      go_meet
                      exact ⟨bad, rfl, unhide HOut⟩
                case rest =>
                  obtain ⟨bad, rfl, hws, hBs⟩ := hcut
                  have hwz : ∀ wz, RD ea rb sb bb s (wEnd s q q false) wz → Tch [rb, sb, bb] wc wz → WZ ea fa pb rb sb bb B N name s L q (wEnd s q q false) w0 wz := fun wz hrd ht => by
                    have ht' : Tch [pb, rb, sb, bb] wc wz := ht.mono (fun k hk => List.mem_cons_of_mem _ hk)
                    have hlts := (unhide HT2).2.2.2
                    have htc := hws.tc.trans ht'
                    refine ⟨hrd, hws.pa.tch ht (unhide HNe), hws.bl.tch ht (fun i hi => hlts i ?_), htc, hws.gl.tch ht', Nat.lt_of_lt_of_le hBs ht.size, hlts, htc.at (unhide HT0).2.1 (unhide HT0).2.2, ?_⟩
                    · simp only [List.mem_cons, List.not_mem_nil, or_false] at hi ⊢
                      omega
                    · have := (unhide HTc).size
                      omega
                  obtain ⟨c0, c1, c2, f2⟩ := hws.pa.cells
                  have HWz := hide hwz
                  have HWs := hide hws
                  rcases hws.rd with ⟨hk, rfl, rfl, hru⟩ | ⟨hk, rfl, rfl, hrd⟩
                  · have HRu2 := hide hru
                    clear hwz hws hru HSp HW0 hBs
                    go_wp2_with fail
                    refine (unreadByte_any ea rb sb bb s _ wc (unhide HRu2)).mono ?_
                    rintro e wz ⟨rfl, hrd, ht⟩
                    have hz := unhide HWz wz hrd ht
                    have HZ := hide hz
                    obtain ⟨y0, y1, y2, y3⟩ := hz.pa.cells
                    clear c0 c1 c2 f2 r0 r1 r2 x0 x1 x2
                    obtain ⟨r0, r1, r2, x0, x1, x2⟩ := res_cells hz.rs
                    clear hrd ht hz
                    go_wp2_with fail
                    go_region_with (go_at_call 28; refine ((unhide HZ).str _).mono ?_; rintro e w5 ⟨rfl, ⟨o2, o3, o4, o5, o6, o7, o8⟩, HFi⟩)
                    all_goals
                      go_wp2_with fail
                      obtain ⟨q1, q2, q3, q4⟩ := unhide HFi
                      have hcE : cnt s (wEnd s q q false) = cnt s q := cnt_noD (wEnd_ge s q q false) (wEnd_no10 s q q false)
                      have hw9 := tch3 (N := N) w5 (.int .u8 119) (.string ⟨(seg s q (wEnd s q q false - q)).toArray⟩) (.int .i64 (wrap64 (L + (cnt s q : Int))))
                      refine ret17w (N := N) rfl rfl rfl q4 (unhide HTr _ _ ⟨(unhide HT0).1.fin hN q3 hw9, .inr ⟨_, unhide HTok, rfl, q1.tch hw9 (notN (unhide HT0).2.2).2, ?_⟩⟩)
                      rw [hcE]
                      exact q2.tch hw9 (notN (unhide HT0).2.2).1
                  · have hz := hwz wc hrd (Tch.refl _ _)
                    have HZ := hide hz
                    have e0' := hz.gl.e
                    obtain ⟨b1', b2', b3', b4', b5'⟩ := hz.gl.eqs
                    have hnq := neq_ea ea wc
                    unfold eofV at e0'
                    unfold eofV
                    clear r0 r1 r2 x0 x1 x2
                    obtain ⟨r0, r1, r2, x0, x1, x2⟩ := res_cells hz.rs
                    clear hwz hws hrd HSp HW0 hBs hz hk
                    go_wp2_with fail
                    go_region_with (go_at_call 28; refine ((unhide HZ).str _).mono ?_; rintro e w5 ⟨rfl, ⟨o2, o3, o4, o5, o6, o7, o8⟩, HFi⟩)
                    all_goals
                      go_wp2_with fail
                      obtain ⟨q1, q2, q3, q4⟩ := unhide HFi
                      have hcE : cnt s (wEnd s q q false) = cnt s q := cnt_noD (wEnd_ge s q q false) (wEnd_no10 s q q false)
                      have hw9 := tch3 (N := N) w5 (.int .u8 119) (.string ⟨(seg s q (wEnd s q q false - q)).toArray⟩) (.int .i64 (wrap64 (L + (cnt s q : Int))))
                      refine ret17w (N := N) rfl rfl rfl q4 (unhide HTr _ _ ⟨(unhide HT0).1.fin hN q3 hw9, .inr ⟨_, unhide HTok, rfl, q1.tch hw9 (notN (unhide HT0).2.2).2, ?_⟩⟩)
                      rw [hcE]
                      exact q2.tch hw9 (notN (unhide HT0).2.2).1
        · rw [hsp] at HSp
          have HN2 : Hid (TS ea fa pb rb sb bb name s L p (q + 1) w0 w1) := hide (by
            refine ⟨(unhide HNn).1, (unhide HNn).2, ?_, unhide HTc, unhide HGl⟩
            rw [← (unhide HQ).tk]
            exact (tok_skip hlt (.inr (by rw [unhide HC]; exact hsp))).symm)
          clear h10 hsp
          go_wp2_with fail
          refine (unhide HSp).mono ?_
          rintro e w' ⟨rfl, rfl⟩
          go_wp2_with fail
          go_roundw
          case rel => exact ⟨_, unhide HN2⟩
          case measure =>
            rw [(unhide HN2).rd.atPos, (unhide HQ).rd.atPos]
            omega
    · have ht1' : Tch [pb, rb, sb, bb] wr w1 := ht1.mono (fun k hk => List.mem_cons_of_mem _ hk)
      have hpa1 := (unhide HQ).pa.tch ht1 (unhide HNe)
      have hgl1 := (unhide HQ).gl.tch ht1'
      obtain ⟨d0, d1, d2, g2⟩ := hpa1.cells
      have htc := (unhide HQ).tc.trans ht1'
      obtain ⟨r0, r1, r2, x0, x1, x2⟩ := res_cells (htc.at (unhide HT0).2.1 (unhide HT0).2.2)
      obtain ⟨b1, b2, b3, b4, b5⟩ := hgl1.eqs
      have e0 := hgl1.e
      unfold eofV at e0
      unfold eofV
      have HPa := hide hpa1
      have HTc := hide htc
      have HRd := hide hrd
      clear ht1 ht1' hpa1 hgl1 htc hrd c0 c1 c2 f2
      go_wp2_with fail
      refine ret17w (N := N) rfl rfl rfl ((unhide HTc).at (unhide HT0).2.1 (unhide HT0).2.2) (unhide HTr _ _ ⟨(unhide HT0).1.fin hN (unhide HTc) (tch3 _ _ _ _), .inr ⟨⟨0, [], cnt s q, q⟩, ?_, ?_, (unhide HRd).tch (tch3 _ _ _ _) (notN (unhide HT0).2.2).2, (unhide HPa).tch (tch3 _ _ _ _) (notN (unhide HT0).2.2).1⟩⟩)
      · rw [← (unhide HQ).tk, tok_end (by omega)]
      · subst heq; rfl
end Go.Proofs.Qxb6614301aFmt
