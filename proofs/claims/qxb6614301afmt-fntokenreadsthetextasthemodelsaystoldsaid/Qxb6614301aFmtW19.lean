import Derived.Test.Qxb6614301aFmtW18
import Derived.Test.Qxb6614301aFmtW16
namespace Go.Proofs.Qxb6614301aFmt
open Go.RowKit
open Go.Extern.Stop Go.Stop Go.Extern

theorem tkCells_get (L : Int) : ∀ (l : List Tk) (n : Nat) (t : Tk) (j : Nat), l[n]? = some t → j < 3 → (tkCells L l)[n * 3 + j]? = (tkCell L t)[j]?
  | [], n, t, j, h, _ => by simp at h
  | a :: l, 0, t, j, h, hj => by
    simp at h
    subst h
    show (tkCell L a ++ tkCells L l)[0 * 3 + j]? = _
    rw [List.getElem?_append_left (by simp [tkCell]; omega)]
    congr 1
    omega
  | a :: l, n + 1, t, j, h, hj => by
    simp at h
    show (tkCell L a ++ tkCells L l)[(n + 1) * 3 + j]? = _
    rw [List.getElem?_append_right (by simp [tkCell]; omega), ← tkCells_get L l n t j h hj]
    congr 1
    simp [tkCell]
    omega
/-- The row of tokens, to be read. -/
def WRow (x : Option Addr) (l : List Tk) (L : Int) (w : World) : Prop := ∀ n t, l[n]? = some t → ∃ g, x = some ⟨g, 0, none⟩ ∧ g < w.heap.size ∧ w.cell? ⟨g, n * 3, none⟩ = some (.int .u8 (t.kind.toNat : Int)) ∧ w.cell? ⟨g, n * 3 + 1, none⟩ = some (.string ⟨t.text.toArray⟩) ∧ w.cell? ⟨g, n * 3 + 2, none⟩ = some (.int .i64 (wrap64 (L + (t.line : Int))))
theorem TRow.wrow {B : Nat} {v : Value} {l : List Tk} {L : Int} {w : World} (h : TRow B v l L w) : ∃ x cap, v = .slice x l.length cap ∧ WRow x l L w := by
  obtain ⟨_, ⟨h1, h2⟩ | ⟨g, cap, cur, h3, h4, h5, h6, h7, h8, h9⟩⟩ := h
  · refine ⟨none, 0, ?_, fun n t ht => ?_⟩
    · rw [h1, h2]
    · have := (List.getElem?_eq_some_iff.1 ht).1
      omega
  · refine ⟨_, cap, h3, fun n t ht => ⟨g, rfl, (Array.getElem?_eq_some_iff.1 h5).1, ?_⟩⟩
    have hn := (List.getElem?_eq_some_iff.1 ht).1
    have key : ∀ j, j < 3 → w.cell? ⟨g, n * 3 + j, none⟩ = (tkCell L t)[j]? := fun j hj => by
      rw [← tkCells_get L l n t j ht hj, ← h9, List.getElem?_take_of_lt (by omega)]
      simp [World.cell?, h5]
    exact ⟨key 0 (by omega), key 1 (by omega), key 2 (by omega)⟩
theorem WRow.tch {x : Option Addr} {l : List Tk} {L : Int} {S : List Nat} {w w' : World} (h : WRow x l L w) (ht : Tch S w w') (hS : ∀ k ∈ S, w.heap.size ≤ k) : WRow x l L w' := by
  intro n t hn
  obtain ⟨g, rfl, hg, c0, c1, c2⟩ := h n t hn
  have hb : w'.heap[g]? = w.heap[g]? := ht.block g hg (fun hm => by have := hS g hm; omega)
  have key : ∀ o, w'.cell? ⟨g, o, none⟩ = w.cell? ⟨g, o, none⟩ := fun o => World.cell?_of_block (by exact hb)
  exact ⟨g, rfl, Nat.lt_of_lt_of_le hg ht.size, (key _).trans c0, (key _).trans c1, (key _).trans c2⟩

/-- The state of the model law's loop. -/
structure R3 (ea fa : Addr) (pb rb sb bb : Nat) (name s : ByteArray) (L : Int) (l : List Tk) (b : Bool) (n : Nat) (w wr : World) : Prop where
  nl : n ≤ l.length
  go : n < l.length ∨ b = true
  np : n ≤ posAt l n
  rd : RD ea rb sb bb s (posAt l n) wr
  pa : PB pb rb name L (cnt s (posAt l n)) wr
  tc : Tch [pb, rb, sb, bb] w wr
  gl : Gl ea fa [pb, rb, sb, bb] wr
theorem R3.next {ea fa : Addr} {pb rb sb bb : Nat} {name s : ByteArray} {L : Int} {l : List Tk} {b : Bool} {n : Nat} {w wr wa : World} {t : Tk} (h : R3 ea fa pb rb sb bb name s L l b n w wr) (hm : Mod s l b) (ht : l[n]? = some t) (hk : t.kind ≠ 0) (hp : posAt l n < t.pos) (hta : Tch [pb, rb, sb, bb] wr wa) (hr : RD ea rb sb bb s t.pos wa) (hpa : PB pb rb name L (cnt s t.pos) wa) : R3 ea fa pb rb sb bb name s L l b (n + 1) w wa := by
  have hn := (List.getElem?_eq_some_iff.1 ht).1
  have hpos : posAt l (n + 1) = t.pos := by simp [posAt, ht]
  have h1 := h.np
  refine ⟨hn, ?_, by omega, by rw [hpos]; exact hr, by rw [hpos]; exact hpa, h.tc.trans hta, h.gl.tch hta⟩
  by_cases hl : n + 1 < l.length
  · exact .inl hl
  · cases b with
    | true => exact .inr rfl
    | false => exact absurd ((hm.at_ n t ht).2.2 ⟨rfl, by omega⟩) hk

set_option maxRecDepth 100000 in
set_option maxHeartbeats 2000000 in
theorem law3_in (F : Interp) (ea fa : Addr) (name s : ByteArray) (L : Int) (W : World) (hF : F.answers W.tape) (hg : Gl ea fa [] W) (hsz : name.size + s.size ≤ 1048576) (h1 : -9223372036854775808 ≤ L) (h2 : L < 9223372036854775808) :
    Calls Tryf.prog 3 #[.string name, .string s, .int .i64 L] W fun e w' => e = .returned (.bool true) ∧ Below W.heap.size W w' := by
  have hs : s.size ≤ 2097152 := by omega
  have hga : decide ((1048576 : Int) < name.size) = false := by simp; omega
  have hgb : decide ((1048576 : Int) - name.size < s.size) = false := by simp; omega
  have HMo := hide (model_any s L W hs h1 h2)
  have HP := hide (fun w => newParser_any ea name s L w h1 h2)
  have HF := hide hF
  have HG := hide hg
  clear hF hg
  go_enter Tryf.func3, Tryf.ntmps3
  go_wp2_with fail
  refine (bytes5_any name s L W).mono ?_
  rintro e w' ⟨⟨r, rfl⟩, rfl⟩
  cases r with
  | false =>
    go_wp2_with fail
    go_ret
    exact ⟨rfl, Below.refl _ _⟩
  | true =>
    go_wp2_with fail
    refine (unhide HMo).mono ?_
    rintro e w1 ⟨hbe, v, l, b, rfl, htr, hll, hmod⟩
    obtain ⟨x, cap, rfl, hwr⟩ := htr.wrow
    have HBe := hide hbe
    have HWr := hide hwr
    have HMd := hide hmod
    clear hbe htr hwr hmod
    go_wp2_with fail
    refine (unhide HP w1).mono ?_
    rintro e w2 ⟨pb, rb, sb, bb, rfl, hr, hp, ht, hl⟩
    have HS : Hid (R3 ea fa pb rb sb bb name s L l b 0 w2 w2) := hide (by
      have hc : cnt s 0 = 0 := rfl
      refine ⟨Nat.zero_le _, ?_, Nat.zero_le _, hr, by show PB pb rb name L (cnt s 0) w2; rw [hc]; exact hp, Tch.refl _ _, ?_⟩
      · cases b with
        | true => exact .inr rfl
        | false => exact .inl (by rcases l with _ | ⟨a, l⟩; exact absurd rfl ((unhide HMd).ne rfl); simp)
      · exact ((unhide HG).tch (Tch.of_below (unhide HBe))).more ht hl)
    have HF2 : Hid (F.answers w2.tape) := hide (by rw [ht.tape, (unhide HBe).tape]; exact unhide HF)
    have HW2 : Hid (WRow x l L w2) := hide ((unhide HWr).tch ht (by simp))
    have HLt : Hid (∀ wr, Tch [pb, rb, sb, bb] w2 wr → WRow x l L wr) := hide (fun wr htc n t hn => by
      obtain ⟨g, hx, hg1, c0, c1, c2⟩ := unhide HWr n t hn
      have h3 : Tch [pb, rb, sb, bb] w1 wr := (ht.mono (by simp)).trans htc
      exact (unhide HWr).tch h3 hl n t hn)
    have HBf : Hid (∀ wr, Tch [pb, rb, sb, bb] w2 wr → Below W.heap.size W wr) := hide (fun wr htc =>
      (unhide HBe).trans ((ht.below0 htc hl).mono (unhide HBe).size))
    clear hr hp ht hl HP HMo HG HF hga hgb HW2 HWr HBe
    obtain ⟨N, hN⟩ : ∃ N, l.length = N := ⟨_, rfl⟩
    rw [hN]
    have hNs : N ≤ s.size + 1 := by omega
    have HN := hide hN
    clear hN hll
    go_wp2_with fail
    go_loopw [10] (fun v wr => ∃ n : Nat, v = .int .i64 n ∧ R3 ea fa pb rb sb bb name s L l b n w2 wr) (fun _ wr => s.size - atPos rb sb wr)
    case atStart => exact ⟨0, rfl, unhide HS⟩
    case round =>
      obtain ⟨n, rfl, h3⟩ := hrel
      have hple := h3.rd.le
      have hnp := h3.np
      have hnN : n ≤ N := by rw [← unhide HN]; exact h3.nl
      have HR := hide h3
      have HT := hide (zztoken_any F ea fa pb rb sb bb name s L (posAt l n) wr (by rw [h3.tc.tape]; exact unhide HF2) h3.rd h3.pa hs h3.gl)
      have HAdv := hide (tokF_adv s _ (posAt l n) rfl hple)
      have hnd : decide ((n : Int) ≤ (s.size : Int) + 1) = true := by simp; omega
      have HPo := hide (And.intro hple hnp)
      have hns : n ≤ s.size := by omega
      clear h3 hple hnp
      go_wp2_with fail
      refine (unhide HT).mono ?_
      rintro e wa ⟨hta, ⟨hna, va, rfl⟩ | ⟨t, hna, rfl, hra, hpa⟩⟩
      · have hnl : n = N ∧ b = true := by
          rcases Nat.lt_or_ge n l.length with h | h
          · have := ((unhide HMd).at_ n l[n] (List.getElem?_eq_getElem h)).1
            rw [hna] at this
            cases this
          · rcases (unhide HR).go with h' | h'
            · omega
            · exact ⟨by rw [← unhide HN]; have := (unhide HR).nl; omega, h'⟩
        obtain ⟨rfl, rfl⟩ := hnl
        have HA := hide hta
        clear hta hna
        go_wp2_with fail
        go_ret
        exact ⟨rfl, unhide HBf _ ((unhide HR).tc.trans (unhide HA))⟩
      · have hlt : n < N := by
          rcases Nat.lt_or_ge n N with h | h
          · exact h
          · rcases (unhide HR).go with h' | h'
            · rw [unhide HN] at h'; omega
            · have := (unhide HMd).bad h'
              rw [show l.length = n by rw [unhide HN]; omega, hna] at this
              cases this
        have hgt : l[n]? = some t := by
          have hn : n < l.length := by rw [unhide HN]; exact hlt
          have := ((unhide HMd).at_ n l[n] (List.getElem?_eq_getElem hn)).1
          rw [hna] at this
          rw [List.getElem?_eq_getElem hn]
          exact congrArg _ (Option.some.inj this).symm
        obtain ⟨g, rfl, hg1, c0, c1, c2⟩ := unhide HLt wa ((unhide HR).tc.trans hta) n t hgt
        have HA := hide (And.intro hta (And.intro hna (And.intro hra hpa)))
        have HGt := hide hgt
        obtain ⟨a1, ha1⟩ : ∃ a1, wrap64 (L + (t.line : Int)) = a1 := ⟨_, rfl⟩
        rw [ha1] at c2
        rw [ha1]
        clear hta hna hra hpa ha1 hgt
        by_cases hk : t.kind = 0
        · have hkz : ((t.kind.toNat : Int) == 0) = true := by rw [hk]; rfl
          obtain ⟨hb, hn1⟩ := ((unhide HMd).at_ n t (unhide HGt)).2.1 hk
          rw [unhide HN] at hn1
          subst hb
          have hnN1 : ((n : Int) == (N : Int) - 1) = true := by simp; omega
          clear hk
          go_wp2_with fail
          go_ret
          exact ⟨rfl, unhide HBf _ ((unhide HR).tc.trans (unhide HA).1)⟩
        · have hkz : ((t.kind.toNat : Int) == 0) = false := (u8_beq t.kind 0).trans (by simpa using hk)
          have HK := hide hk
          clear hk
          go_wp2_with fail
          have hadv : posAt l n < t.pos := by
            rcases unhide HAdv t (unhide HA).2.1 with ⟨h, _⟩ | ⟨_, h⟩
            · exact absurd h (unhide HK)
            · exact h
          obtain ⟨q1, _, q2, q3⟩ := unhide HA
          have hr3 := (unhide HR).next (unhide HMd) (unhide HGt) (unhide HK) hadv q1 q2 q3
          refine ⟨⟨n + 1, by go_num, hr3⟩, ?_⟩
          rw [hr3.rd.atPos, (unhide HR).rd.atPos]
          have h5 := hr3.rd.le
          have h6 : posAt l (n + 1) = t.pos := by simp [posAt, unhide HGt]
          omega

set_option maxRecDepth 100000 in
theorem law3_big (name s : ByteArray) (L : Int) (W : World) (hsz : 1048576 < name.size + s.size) (hn : name.size ≤ 9223372036854775807) (_hs : s.size ≤ 9223372036854775807) :
    Calls Tryf.prog 3 #[.string name, .string s, .int .i64 L] W fun e w' => e = .returned (.bool true) ∧ Below W.heap.size W w' := by
  by_cases hn1 : 1048576 < name.size
  · have hga : decide ((1048576 : Int) < name.size) = true := by simp; omega
    go_enter Tryf.func3, Tryf.ntmps3
    go_wp2_with fail
    refine (bytes5_any name s L W).mono ?_
    rintro e w' ⟨⟨r, rfl⟩, rfl⟩
    cases r with
    | false =>
      go_wp2_with fail
      go_ret
      exact ⟨rfl, Below.refl _ _⟩
    | true =>
      go_wp2_with fail
      go_ret
      exact ⟨rfl, Below.refl _ _⟩
  · have hga : decide ((1048576 : Int) < name.size) = false := by simp; omega
    have hgb : decide ((1048576 : Int) - name.size < s.size) = true := by simp; omega
    go_enter Tryf.func3, Tryf.ntmps3
    go_wp2_with fail
    refine (bytes5_any name s L W).mono ?_
    rintro e w' ⟨⟨r, rfl⟩, rfl⟩
    cases r with
    | false =>
      go_wp2_with fail
      go_ret
      exact ⟨rfl, Below.refl _ _⟩
    | true =>
      go_wp2_with fail
      go_ret
      exact ⟨rfl, Below.refl _ _⟩
end Go.Proofs.Qxb6614301aFmt
