import Derived.Test.Qxb6614301aFmtW14
import Derived.Test.Qxb6614301aFmtRow0
namespace Go.Proofs.Qxb6614301aFmt
open Go.RowKit
open Go.Extern.Stop Go.Stop Go.Extern

/-- The state of the shift law's loop. -/
structure LS (ea fa : Addr) (pb0 rb0 sb0 bb0 pb1 rb1 sb1 bb1 : Nat) (name s : ByteArray) (L : Int) (n p : Nat) (w wr : World) : Prop where
  np : n ≤ p
  rd0 : RD ea rb0 sb0 bb0 s p wr
  pa0 : PB pb0 rb0 name 0 (cnt s p) wr
  rd1 : RD ea rb1 sb1 bb1 s p wr
  pa1 : PB pb1 rb1 name L (cnt s p) wr
  tc : Tch [pb0, rb0, sb0, bb0, pb1, rb1, sb1, bb1] w wr
  gl : Gl ea fa [pb0, rb0, sb0, bb0, pb1, rb1, sb1, bb1] wr

theorem Tch.below0 {S : List Nat} {a b c : World} (h0 : Tch [] a b) (h : Tch S b c) (hS : ∀ k ∈ S, a.heap.size ≤ k) : Below a.heap.size a c :=
  ⟨h.os.trans h0.os, h.tape.trans h0.tape, h.output.trans h0.output, Nat.le_trans h0.size h.size, fun k hk =>
    (h.block k (Nat.lt_of_lt_of_le hk h0.size) (fun hm => by have := hS k hm; omega)).trans (h0.block k hk (by simp))⟩

/-- What the two parsers lean on: new blocks, none of the one being one of the other. -/
structure L0 (pb0 rb0 sb0 bb0 pb1 rb1 sb1 bb1 : Nat) (W w2 : World) : Prop where
  di : ∀ k ∈ [pb0, rb0, sb0, bb0], k ∉ [pb1, rb1, sb1, bb1]
  tc : Tch [] W w2
  ge : ∀ k ∈ [pb0, rb0, sb0, bb0, pb1, rb1, sb1, bb1], W.heap.size ≤ k
theorem two_start {ea fa : Addr} {pb0 rb0 sb0 bb0 pb1 rb1 sb1 bb1 : Nat} {name s : ByteArray} {L : Int} {W w1 w2 : World} (hg : Gl ea fa [] W)
    (h0 : RD ea rb0 sb0 bb0 s 0 w1 ∧ PB pb0 rb0 name 0 0 w1 ∧ Tch [] W w1 ∧ ∀ k ∈ [pb0, rb0, sb0, bb0], W.heap.size ≤ k)
    (h1 : RD ea rb1 sb1 bb1 s 0 w2 ∧ PB pb1 rb1 name L 0 w2 ∧ Tch [] w1 w2 ∧ ∀ k ∈ [pb1, rb1, sb1, bb1], w1.heap.size ≤ k) :
    LS ea fa pb0 rb0 sb0 bb0 pb1 rb1 sb1 bb1 name s L 0 0 w2 w2 ∧ L0 pb0 rb0 sb0 bb0 pb1 rb1 sb1 bb1 W w2 := by
  obtain ⟨r0, p0, t0, g0⟩ := h0
  obtain ⟨r1, p1, t1, g1⟩ := h1
  obtain ⟨l1, l2, l3⟩ := r0.lts
  have l4 := p0.lt
  have z := t0.size
  have hge : ∀ k ∈ [pb0, rb0, sb0, bb0, pb1, rb1, sb1, bb1], W.heap.size ≤ k := by
    intro k hk
    have hk' : k ∈ [pb0, rb0, sb0, bb0] ∨ k ∈ [pb1, rb1, sb1, bb1] := by
      simp only [List.mem_cons, List.not_mem_nil, or_false] at hk ⊢
      omega
    rcases hk' with hk | hk
    · exact g0 k hk
    · have := g1 k hk
      omega
  have hc : cnt s 0 = 0 := rfl
  refine ⟨⟨Nat.le_refl _, r0.tch t1 (by simp), ?_, r1, ?_, Tch.refl _ _, hg.more (t0.trans t1) hge⟩, ?_, t0.trans t1, hge⟩
  · rw [hc]; exact p0.tch t1 (by simp)
  · rw [hc]; exact p1
  · intro k hk hk1
    have := g1 k hk1
    simp only [List.mem_cons, List.not_mem_nil, or_false] at hk
    omega
theorem L0.n0 {pb0 rb0 sb0 bb0 pb1 rb1 sb1 bb1 : Nat} {W w2 : World} (h : L0 pb0 rb0 sb0 bb0 pb1 rb1 sb1 bb1 W w2) : (∀ k, k = rb0 ∨ k = sb0 ∨ k = bb0 → k ∉ [pb1, rb1, sb1, bb1]) ∧ pb0 ∉ [pb1, rb1, sb1, bb1] ∧ (∀ k, k = rb1 ∨ k = sb1 ∨ k = bb1 → k ∉ [pb0, rb0, sb0, bb0]) ∧ pb1 ∉ [pb0, rb0, sb0, bb0] := by
  refine ⟨fun k hk => h.di k ?_, h.di pb0 (by simp), fun k hk hm => h.di k hm ?_, fun hm => h.di pb1 hm (by simp)⟩
  · rcases hk with rfl | rfl | rfl <;> simp
  · rcases hk with rfl | rfl | rfl <;> simp
theorem LS.tok0 {ea fa : Addr} {pb0 rb0 sb0 bb0 pb1 rb1 sb1 bb1 : Nat} {name s : ByteArray} {L : Int} {n p : Nat} {w wr : World} {F : Interp} (h : LS ea fa pb0 rb0 sb0 bb0 pb1 rb1 sb1 bb1 name s L n p w wr) (hF : F.answers w.tape) (hs : s.size ≤ 2097152) :
    Calls Tryf.prog 8 #[.pointer (some ⟨pb0, 0, none⟩)] wr (ZPost ea pb0 rb0 sb0 bb0 name s 0 p wr) :=
  zztoken_any F ea fa pb0 rb0 sb0 bb0 name s 0 p wr (by rw [h.tc.tape]; exact hF) h.rd0 h.pa0 hs (h.gl.sub (by intro k hk; simp only [List.mem_cons, List.not_mem_nil, or_false] at hk ⊢; omega))
theorem LS.tok1 {ea fa : Addr} {pb0 rb0 sb0 bb0 pb1 rb1 sb1 bb1 : Nat} {name s : ByteArray} {L : Int} {n p : Nat} {W w wr wa : World} {F : Interp} (h : LS ea fa pb0 rb0 sb0 bb0 pb1 rb1 sb1 bb1 name s L n p w wr) (h0 : L0 pb0 rb0 sb0 bb0 pb1 rb1 sb1 bb1 W w) (hF : F.answers w.tape) (hs : s.size ≤ 2097152) (ht : Tch [pb0, rb0, sb0, bb0] wr wa) :
    Calls Tryf.prog 8 #[.pointer (some ⟨pb1, 0, none⟩)] wa (ZPost ea pb1 rb1 sb1 bb1 name s L p wa) := by
  obtain ⟨n1, n2, n3, n4⟩ := h0.n0
  have ht' : Tch [pb0, rb0, sb0, bb0, pb1, rb1, sb1, bb1] wr wa := ht.mono (by intro k hk; simp only [List.mem_cons, List.not_mem_nil, or_false] at hk ⊢; omega)
  exact zztoken_any F ea fa pb1 rb1 sb1 bb1 name s L p wa (by rw [ht.tape, h.tc.tape]; exact hF) (h.rd1.tch ht n3) (h.pa1.tch ht n4) hs ((h.gl.tch ht').sub (by intro k hk; simp only [List.mem_cons, List.not_mem_nil, or_false] at hk ⊢; omega))
theorem LS.tc2 {ea fa : Addr} {pb0 rb0 sb0 bb0 pb1 rb1 sb1 bb1 : Nat} {name s : ByteArray} {L : Int} {n p : Nat} {w wr wa wb : World} (h : LS ea fa pb0 rb0 sb0 bb0 pb1 rb1 sb1 bb1 name s L n p w wr) (ht : Tch [pb0, rb0, sb0, bb0] wr wa) (ht1 : Tch [pb1, rb1, sb1, bb1] wa wb) : Tch [pb0, rb0, sb0, bb0, pb1, rb1, sb1, bb1] wr wb ∧ Tch [pb0, rb0, sb0, bb0, pb1, rb1, sb1, bb1] w wb := by
  have e1 : Tch [pb0, rb0, sb0, bb0, pb1, rb1, sb1, bb1] wr wb := (ht.mono (by intro k hk; simp only [List.mem_cons, List.not_mem_nil, or_false] at hk ⊢; omega)).trans (ht1.mono (by intro k hk; simp only [List.mem_cons, List.not_mem_nil, or_false] at hk ⊢; omega))
  exact ⟨e1, h.tc.trans e1⟩
theorem LS.next {ea fa : Addr} {pb0 rb0 sb0 bb0 pb1 rb1 sb1 bb1 : Nat} {name s : ByteArray} {L : Int} {n p q : Nat} {W w wr wa wb : World} (h : LS ea fa pb0 rb0 sb0 bb0 pb1 rb1 sb1 bb1 name s L n p w wr) (h0 : L0 pb0 rb0 sb0 bb0 pb1 rb1 sb1 bb1 W w) (ht : Tch [pb0, rb0, sb0, bb0] wr wa) (hr : RD ea rb0 sb0 bb0 s q wa) (hp : PB pb0 rb0 name 0 (cnt s q) wa) (ht1 : Tch [pb1, rb1, sb1, bb1] wa wb) (hr1 : RD ea rb1 sb1 bb1 s q wb) (hp1 : PB pb1 rb1 name L (cnt s q) wb) (hq : p < q) : LS ea fa pb0 rb0 sb0 bb0 pb1 rb1 sb1 bb1 name s L (n + 1) q w wb := by
  obtain ⟨n1, n2, n3, n4⟩ := h0.n0
  obtain ⟨e1, e2⟩ := h.tc2 ht ht1
  have := h.np
  exact ⟨by omega, hr.tch ht1 n1, hp.tch ht1 n2, hr1, hp1, e2, h.gl.tch e1⟩

theorem LS.drewN {ea fa : Addr} {pb0 rb0 sb0 bb0 pb1 rb1 sb1 bb1 : Nat} {name s : ByteArray} {L : Int} {n p : Nat} {w wr : World} (h : LS ea fa pb0 rb0 sb0 bb0 pb1 rb1 sb1 bb1 name s L n p w wr) (m : Nat) : LS ea fa pb0 rb0 sb0 bb0 pb1 rb1 sb1 bb1 name s L n p w (wr.drewN m) := by
  have ht : Tch [] wr (wr.drewN m) := (Tch.refl [] wr).drewN m
  exact ⟨h.np, h.rd0.tch ht (by simp), h.pa0.tch ht (by simp), h.rd1.tch ht (by simp), h.pa1.tch ht (by simp), h.tc.drewN m, h.gl.drewN m⟩
theorem line_shift (L : Int) (n : Nat) : wrap64 (wrap64 (0 + (n : Int)) + L) = wrap64 (L + (n : Int)) := by
  rw [w64_add]; congr 1; omega

set_option maxRecDepth 100000 in
set_option maxHeartbeats 2000000 in
theorem law_in (F : Interp) (ea fa : Addr) (name s : ByteArray) (L : Int) (W : World) (hF : F.answers W.tape) (hg : Gl ea fa [] W) (hsz : name.size + s.size ≤ 1048576) (h1 : -9223372036854775808 ≤ L) (h2 : L < 9223372036854775808) :
    Calls Tryf.prog 4 #[.string name, .string s, .int .i64 L] W fun e w' => e = .returned (.bool true) ∧ Below W.heap.size W w' := by
  have hs : s.size ≤ 2097152 := by omega
  have hga : decide ((1048576 : Int) < name.size) = false := by simp; omega
  have hgb : decide ((1048576 : Int) - name.size < s.size) = false := by simp; omega
  have HP0 := hide (newParser_any ea name s 0 W (by decide) (by decide))
  have HP1 := hide (fun w => newParser_any ea name s L w h1 h2)
  have HF := hide hF
  have HG := hide hg
  clear hF hg
  go_enter Tryf.func4, Tryf.ntmps4
  go_wp2_with fail
  refine (bytes9_any name s L W).mono ?_
  rintro e w' ⟨⟨r, rfl⟩, rfl⟩
  cases r with
  | false =>
    go_wp2_with fail
    go_ret
    exact ⟨rfl, Below.refl _ _⟩
  | true =>
    go_wp2_with fail
    refine (unhide HP0).mono ?_
    rintro e w1 ⟨pb0, rb0, sb0, bb0, rfl, hr0, hp0, ht0, hl0⟩
    have HA0 := hide (And.intro hr0 (And.intro hp0 (And.intro ht0 hl0)))
    clear hr0 hp0 ht0 hl0
    go_wp2_with fail
    refine (unhide HP1 w1).mono ?_
    rintro e w2 ⟨pb1, rb1, sb1, bb1, rfl, hr1, hp1, ht1, hl1⟩
    have HA1 := hide (And.intro hr1 (And.intro hp1 (And.intro ht1 hl1)))
    clear hr1 hp1 ht1 hl1
    have HS := hide (two_start (unhide HG) (unhide HA0) (unhide HA1))
    have HF2 : Hid (F.answers w2.tape) := hide (by rw [(unhide HS).2.tc.tape]; exact unhide HF)
    clear HA0 HA1 HP0 HP1 HG HF hga hgb
    go_wp2_with fail
    go_loopw [9] (fun v wr => ∃ n p : Nat, v = .int .i64 n ∧ LS ea fa pb0 rb0 sb0 bb0 pb1 rb1 sb1 bb1 name s L n p w2 wr) (fun _ wr => s.size - atPos rb0 sb0 wr)
    case atStart => exact ⟨0, 0, rfl, (unhide HS).1⟩
    case round =>
      obtain ⟨n, p, rfl, hl⟩ := hrel
      have hple := hl.rd0.le
      have hnp := hl.np
      have HL := hide hl
      have HT0 := hide (hl.tok0 (unhide HF2) hs)
      have HT1 := hide (fun wa ht => hl.tok1 (wa := wa) (unhide HS).2 (unhide HF2) hs ht)
      have HAdv := hide (tokF_adv s _ p rfl hple)
      have hnd : decide ((n : Int) ≤ (s.size : Int) + 1) = true := by simp; omega
      clear hl
      go_wp2_with fail
      refine (unhide HT0).mono ?_
      rintro e wa ⟨hta, ⟨hna, va, rfl⟩ | ⟨t, hna, rfl, hra, hpa⟩⟩
      · have HA := hide (And.intro hta hna)
        clear hta hna
        go_wp2_with fail
        refine (unhide HT1 wa (unhide HA).1).mono ?_
        rintro e wb ⟨htb, ⟨hnb, vb, rfl⟩ | ⟨t', hnb, rfl, hrb, hpb⟩⟩
        · have HB := hide htb
          clear htb hnb
          go_wp2_with fail
          go_quiet (fail)
          go_wp2_with fail
          go_ret
          exact ⟨rfl, (unhide HS).2.tc.below0 (((unhide HL).tc2 (unhide HA).1 (unhide HB)).2.drewN _) (unhide HS).2.ge⟩
        · rw [(unhide HA).2] at hnb
          cases hnb
      · have HA := hide (And.intro hta (And.intro hna (And.intro hra hpa)))
        have hln := line_shift L t.line
        obtain ⟨a0, ha0⟩ : ∃ a0, wrap64 (0 + (t.line : Int)) = a0 := ⟨_, rfl⟩
        rw [ha0] at hln
        rw [ha0]
        have HLn := hide hln
        clear hta hna hra hpa ha0 hln
        go_wp2_with fail
        refine (unhide HT1 wa (unhide HA).1).mono ?_
        rintro e wb ⟨htb, ⟨hnb, vb, rfl⟩ | ⟨t', hnb, rfl, hrb, hpb⟩⟩
        · rw [(unhide HA).2.1] at hnb
          cases hnb
        · rw [(unhide HA).2.1] at hnb
          cases hnb
          have HB := hide (And.intro htb (And.intro hrb hpb))
          clear htb hrb hpb
          have hln := unhide HLn
          obtain ⟨a1, ha1⟩ : ∃ a1, wrap64 (L + (t.line : Int)) = a1 := ⟨_, rfl⟩
          rw [ha1] at hln
          rw [ha1]
          have HA1 := hide ha1
          clear ha1
          have hln' : IntKind.i64.wrap (a0 + L) = a1 := (i64w _).trans hln
          by_cases hk : t.kind = 0
          · have hkz : ((t.kind.toNat : Int) == 0) = true := by rw [hk]; rfl
            have HC := hide (countByte_any s)
            have HK := hide hk
            clear hk
            go_wp2_with fail
            go_quiet (fail)
            go_wp2_with fail
            refine (unhide HC (wb.drewN nq) hs).mono ?_
            rintro e w' ⟨rfl, rfl⟩
            have hcn : wrap64 (L + (nls s.data.toList : Int)) = a1 := by
              rcases unhide HAdv t (unhide HA).2.1 with ⟨_, h, _⟩ | ⟨h, _⟩
              · rw [nls_all, ← h]; exact unhide HA1
              · exact absurd (unhide HK) h
            obtain ⟨C, hC⟩ : ∃ C : Nat, nls s.data.toList = C := ⟨_, rfl⟩
            rw [hC] at hcn
            rw [hC]
            have hcn' : IntKind.i64.wrap (L + (C : Int)) = a1 := (i64w _).trans hcn
            clear hC
            go_wp2_with fail
            go_ret
            exact ⟨rfl, (unhide HS).2.tc.below0 (((unhide HL).tc2 (unhide HA).1 (unhide HB).1).2.drewN _) (unhide HS).2.ge⟩
          · have hkz : ((t.kind.toNat : Int) == 0) = false := (u8_beq t.kind 0).trans (by simpa using hk)
            have HK := hide hk
            clear hk
            go_wp2_with fail
            go_quiet (fail)
            go_wp2_with fail
            have hadv : p < t.pos := by
              rcases unhide HAdv t (unhide HA).2.1 with ⟨h, _⟩ | ⟨_, h⟩
              · exact absurd h (unhide HK)
              · exact h
            obtain ⟨q1, _, q2, q3⟩ := unhide HA
            obtain ⟨q4, q5, q6⟩ := unhide HB
            have hls := ((unhide HL).next (unhide HS).2 q1 q2 q3 q4 q5 q6 hadv).drewN nq
            refine ⟨⟨n + 1, t.pos, by go_num, hls⟩, ?_⟩
            rw [hls.rd0.atPos, (unhide HL).rd0.atPos]
            have := hls.rd0.le
            omega

set_option maxRecDepth 100000 in
theorem law_big (name s : ByteArray) (L : Int) (W : World) (hsz : 1048576 < name.size + s.size) (hn : name.size ≤ 9223372036854775807) (_hs : s.size ≤ 9223372036854775807) :
    Calls Tryf.prog 4 #[.string name, .string s, .int .i64 L] W fun e w' => e = .returned (.bool true) ∧ Below W.heap.size W w' := by
  by_cases hn1 : 1048576 < name.size
  · have hga : decide ((1048576 : Int) < name.size) = true := by simp; omega
    go_enter Tryf.func4, Tryf.ntmps4
    go_wp2_with fail
    refine (bytes9_any name s L W).mono ?_
    rintro e w' ⟨⟨r, rfl⟩, rfl⟩
    cases r with
    | false =>
      go_wp2_with fail
      go_ret
      exact ⟨rfl, Below.refl _ _⟩
    | true =>
      go_wp2_with fail
      go_ret
      exact ⟨rfl, Below.refl _ _⟩
  · have hga : decide ((1048576 : Int) < name.size) = false := by simp; omega
    have hgb : decide ((1048576 : Int) - name.size < s.size) = true := by simp; omega
    go_enter Tryf.func4, Tryf.ntmps4
    go_wp2_with fail
    refine (bytes9_any name s L W).mono ?_
    rintro e w' ⟨⟨r, rfl⟩, rfl⟩
    cases r with
    | false =>
      go_wp2_with fail
      go_ret
      exact ⟨rfl, Below.refl _ _⟩
    | true =>
      go_wp2_with fail
      go_ret
      exact ⟨rfl, Below.refl _ _⟩
end Go.Proofs.Qxb6614301aFmt
