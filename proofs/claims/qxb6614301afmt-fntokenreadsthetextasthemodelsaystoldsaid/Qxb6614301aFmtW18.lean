import Derived.Test.Qxb6614301aFmtW17
namespace Go.Proofs.Qxb6614301aFmt
open Go.RowKit

theorem info33 : (Tryf.prog.info? 33).map (fun i => (i.zero, i.size, i.bytes)) = some (some (.agg #[.int .u8 0, .string ⟨#[]⟩, .int .i64 0]), 3, 32) := by kernel_rfl
/-- A token's cells. -/
def tkCell (L : Int) (t : Tk) : List Value := [.int .u8 (t.kind.toNat : Int), .string ⟨t.text.toArray⟩, .int .i64 (wrap64 (L + (t.line : Int)))]
def tkCells (L : Int) (l : List Tk) : List Value := l.flatMap (tkCell L)
theorem tkCells_app (L : Int) (l : List Tk) (t : Tk) : tkCells L (l ++ [t]) = tkCells L l ++ tkCell L t := by simp [tkCells]
/-- A row of tokens of the call's own. -/
def TRow (B : Nat) (v : Value) (l : List Tk) (L : Int) (w : World) : Prop := w.ownsRow B 33 3 v l.length (tkCells L l)
theorem cells_new3 (w : World) (a b c : Value) (t : TypeId) : ∀ (j : Nat) (u : Value), ([a, b, c] : List Value)[j]? = some u → (w.alloc (.cells #[a, b, c] t)).cell? ((⟨w.heap.size, 0, none⟩ : Addr).add j) = some u := by
  intro j u h
  have hb : (w.alloc (.cells #[a, b, c] t)).heap[w.heap.size]? = some (.cells #[a, b, c] t (0, 0)) := Array.getElem?_push_size
  generalize w.alloc (.cells #[a, b, c] t) = W at *
  match j, h with
  | 0, h => cases h; simp [World.cell?, Addr.add, hb]
  | 1, h => cases h; simp [World.cell?, Addr.add, hb]
  | 2, h => cases h; simp [World.cell?, Addr.add, hb]
  | j + 3, h => simp at h
theorem ownB {w : World} {B n z : Nat} {e : TypeId} {v : Value} {xs : List Value} (h : w.ownsRow B e z v n xs) : ∀ j, v.ownBlock = some j → B ≤ j := by
  intro j hj
  rcases h.2 with ⟨h1, _⟩ | ⟨g, cap, cur, h3, h4, h5, _⟩
  · rw [h1] at hj; cases hj
  · rw [h3] at hj; cases hj; exact h4
theorem TRow.push {B : Nat} {v : Value} {l : List Tk} {L : Int} {w0 wx : World} {a b c : Value} {t : Tk} (h : TRow B v l L wx) (hbe : Below B w0 wx) (hB : B ≤ wx.heap.size) (habc : [a, b, c] = tkCell L t) {v' : Value} {w' : World}
    (ho : w'.ownsRow B 33 3 v' (l.length + 1) (tkCells L l ++ [a, b, c])) (hg : (wx.alloc (.cells #[a, b, c] 33)).grownBy w' v.ownBlock) : TRow B v' (l ++ [t]) L w' ∧ Below B w0 w' := by
  refine ⟨?_, (hbe.alloc hB _).grown hg (by simp; omega) (ownB h)⟩
  unfold TRow
  rw [tkCells_app, List.length_append, ← habc]
  exact ho
theorem byt_seg (s : ByteArray) (a n k : Nat) (h : k < n) : byt ⟨(seg s a n).toArray⟩ k = byt s (a + k) := by
  show ((seg s a n).toArray.toList).getD k 0 = _
  rw [List.toList_toArray, List.getD, seg_get s a n k h]
  rfl
/-- The state of the model's loop. -/
structure MS (s : ByteArray) (L : Int) (l : List Tk) (i : Nat) (v1 v6 v7 : Value) (w wr : World) : Prop where
  i7 : v7 = .int .i64 i
  l1 : v1 = .int .i64 (wrap64 (L + (cnt s i : Int)))
  tr : TRow w.heap.size v6 l L wr
  ch : Chain s l
  tk : tokF s i = tokF s (posAt l l.length)
  le : i ≤ s.size
  ll : l.length ≤ i
  be : Below w.heap.size w wr
theorem MS.next {s : ByteArray} {L : Int} {l : List Tk} {i : Nat} {v1 v6 v7 v' : Value} {w wr w9 : World} {t : Tk} (h : MS s L l i v1 v6 v7 w wr) (ht : tokF s (posAt l l.length) = some t) (hk : t.kind ≠ 0) (hp : i < t.pos) (hz : t.pos ≤ s.size) (h9 : TRow w.heap.size v' (l ++ [t]) L w9 ∧ Below w.heap.size w w9) :
    MS s L (l ++ [t]) t.pos (.int .i64 (wrap64 (L + (cnt s t.pos : Int)))) v' (.int .i64 (t.pos : Nat)) w w9 :=
  ⟨rfl, rfl, h9.1, h.ch.snoc ht hk, by rw [List.length_append, List.length_singleton, posAt_end], hz, by have := h.ll; rw [List.length_append, List.length_singleton]; omega, h9.2⟩
/-- What the model leaves. -/
def MPost (s : ByteArray) (L : Int) (w : World) (e : Ending) (w' : World) : Prop :=
  Below w.heap.size w w' ∧ ∃ v l b, e = .returned (.tuple #[v, .bool b]) ∧ TRow w.heap.size v l L w' ∧ l.length ≤ s.size + 1 ∧ Mod s l b

set_option maxRecDepth 100000 in
set_option maxHeartbeats 4000000 in
theorem model_any (s : ByteArray) (L : Int) (w : World) (hs : s.size ≤ 2097152) (h1 : -9223372036854775808 ≤ L) (h2 : L < 9223372036854775808) :
    Calls Tryf.prog 6 #[.string s, .int .i64 L] w (MPost s L w) := by
  generalize hT : MPost s L w = T
  have HTr := hide (show ∀ (e : Ending) (w' : World), MPost s L w e w' → T e w' from fun e w' h => by rw [← hT]; exact h)
  have HI : Hid (MS s L [] 0 (.int .i64 L) (.slice none 0 0) (.int .i64 (0 : Nat)) w w) := hide (by
    refine ⟨rfl, ?_, World.ownsRow_nil _ _ _ _, Chain.nil s, rfl, Nat.zero_le _, Nat.le_refl _, Below.refl _ _⟩
    have : cnt s 0 = 0 := rfl
    rw [this]
    unfold wrap64
    congr 1
    omega)
  obtain ⟨i0, hi0, hz0, hz1, hz2⟩ := info_parts info33
  clear hT h1 h2
  go_enter Tryf.func6, Tryf.ntmps6
  go_wp2_with fail
  go_loopw [1, 6, 7] (fun v1 v6 v7 wr => ∃ i l, MS s L l i v1 v6 v7 w wr) (fun _ _ v7 _ => s.size - (intOf v7).toNat)
  case atStart => exact ⟨0, [], unhide HI⟩
  case round =>
    obtain ⟨i, l, hm⟩ := hrel
    obtain rfl := hm.i7
    obtain rfl := hm.l1
    have HM := hide hm
    have hle := hm.le
    have hll := hm.ll
    clear hm HI
    go_upto_block 2 with fail
    go_cut [1, 7, 8, 9] from 17 to 46 (fun v1 v7 _ _ wx => ∃ j, v7 = .int .i64 (j : Nat) ∧ v1 = .int .i64 (wrap64 (L + (cnt s j : Int))) ∧ i ≤ j ∧ j ≤ s.size ∧ tokF s j = tokF s i ∧ wx = wr ∧ (j = s.size ∨ (j < s.size ∧ byt s j ≠ 10 ∧ spc (byt s j) = false ∧ byt s j ≠ 35)))
    case first =>
      go_wp2_with fail
      go_loopw [1, 7, 8, 9] (fun v1 v7 _ _ wx => ∃ j, v7 = .int .i64 (j : Nat) ∧ v1 = .int .i64 (wrap64 (L + (cnt s j : Int))) ∧ i ≤ j ∧ j ≤ s.size ∧ tokF s j = tokF s i ∧ wx = wr) (fun _ v7 _ _ _ => s.size - (intOf v7).toNat)
      case atStart => exact ⟨i, rfl, rfl, Nat.le_refl _, hle, rfl, rfl⟩
      case round =>
        obtain ⟨j, rfl, rfl, hij, hj, htk, rfl⟩ := hrel
        obtain ⟨ln, hln⟩ : ∃ ln, wrap64 (L + (cnt s j : Int)) = ln := ⟨_, rfl⟩
        rw [hln]
        have HLn := hide hln
        have HTk := hide htk
        clear hln htk
        by_cases hlt : j < s.size
        · have HB := hide (byt_at s j hlt)
          have hd : decide ((j : Int) < s.size) = true := by simp; omega
          have HSp := hide (blank_any s[j] wr)
          have HLn1 : Hid (byt s j = 10 → wrap64 (ln + 1) = wrap64 (L + (cnt s (j + 1) : Int))) := hide (fun h => by
            rw [← unhide HLn, w64_add, cnt_nl h]
            congr 1
            omega)
          have HLn0 : Hid (byt s j ≠ 10 → ln = wrap64 (L + (cnt s (j + 1) : Int))) := hide (fun h => by
            rw [← unhide HLn, cnt_no h])
          by_cases h10 : s[j] = 10
          · have j10 : ((s[j].toNat : Int) == 10) = true := by rw [h10]; rfl
            have HC : Hid (byt s j = 10) := hide ((unhide HB).trans h10)
            clear h10
            go_wp2_with fail
            go_roundw
            case rel => exact ⟨j + 1, by go_num, by rw [unhide HLn1 (unhide HC)], by omega, by omega, by rw [← tok_skip hlt (.inl (unhide HC))]; exact unhide HTk, trivial⟩
            case measure => simp [intOf]; omega
          · have j10 : ((s[j].toNat : Int) == 10) = false := (u8_beq s[j] 10).trans (by simpa using h10)
            have HC : Hid (byt s j ≠ 10) := hide (by rw [unhide HB]; exact h10)
            cases hsp : spc s[j]
            · rw [hsp] at HSp
              have HS0 : Hid (spc (byt s j) = false) := hide (by rw [unhide HB]; exact hsp)
              by_cases h35 : s[j] = 35
              · have j35 : ((s[j].toNat : Int) == 35) = true := by rw [h35]; rfl
                have H35 : Hid (byt s j = 35) := hide ((unhide HB).trans h35)
                clear h10 h35 hsp
                go_wp2_with fail
                refine (unhide HSp).mono ?_
                rintro e w' ⟨rfl, rfl⟩
                go_wp2_with fail
                refine (indexFrom_any s j 10 w' hs hj).mono ?_
                rintro e w'' ⟨rfl, ⟨k, k1, k2, k3, k4, rfl⟩ | ⟨k4, rfl⟩⟩
                · have hkd : decide ((k : Int) < 0) = false := by simp
                  have hjk : j < k := by
                    rcases Nat.lt_or_ge j k with h | h
                    · exact h
                    · obtain rfl : j = k := by omega
                      exact absurd k3 (unhide HC)
                  have HK := hide (And.intro k3 k4)
                  clear k3 k4
                  go_wp2_with fail
                  go_roundw
                  case rel =>
                    obtain ⟨k3, k4⟩ := unhide HK
                    have hcn : cnt s (k + 1) = cnt s j + 1 := by rw [cnt_nl k3, cnt_noD (by omega) k4]
                    refine ⟨k + 1, by go_num, ?_, by omega, by omega, ?_, trivial⟩
                    · rw [hcn, ← unhide HLn, w64_add]
                      congr 2
                      omega
                    · rw [← unhide HTk, tok_com hlt (unhide H35), nxt_at (j := k) hjk k2 k3 (fun q q1 q2 => k4 q (by omega) q2), Nat.min_eq_left (by omega)]
                  case measure => simp [intOf]; omega
                · have HK := hide k4
                  clear k4
                  go_wp2_with fail
                  go_roundw
                  case rel =>
                    have k4 := unhide HK
                    refine ⟨s.size, rfl, ?_, by omega, Nat.le_refl _, ?_, trivial⟩
                    · rw [cnt_noD (by omega) k4, unhide HLn]
                    · rw [← unhide HTk, tok_com hlt (unhide H35), nxt_end hlt (fun q q1 q2 => k4 q (by omega) q2), Nat.min_eq_right (by omega)]
                  case measure => simp [intOf]; omega
              · have j35 : ((s[j].toNat : Int) == 35) = false := (u8_beq s[j] 35).trans (by simpa using h35)
                have H35 : Hid (byt s j ≠ 35) := hide (by rw [unhide HB]; exact h35)
                clear h10 h35 hsp
                go_wp2_with fail
                refine (unhide HSp).mono ?_
                rintro e w' ⟨rfl, rfl⟩
                go_wp2_with fail
                go_meet
                exact ⟨j, rfl, by rw [unhide HLn], hij, hj, unhide HTk, rfl, .inr ⟨hlt, unhide HC, unhide HS0, unhide H35⟩⟩
            · rw [hsp] at HSp
              have HS1 : Hid (spc (byt s j) = true) := hide (by rw [unhide HB]; exact hsp)
              clear h10 hsp
              go_wp2_with fail
              refine (unhide HSp).mono ?_
              rintro e w' ⟨rfl, rfl⟩
              go_wp2_with fail
              go_roundw
              case rel => exact ⟨j + 1, by go_num, by rw [unhide HLn0 (unhide HC)], by omega, by omega, by rw [← tok_skip hlt (.inr (unhide HS1))]; exact unhide HTk, trivial⟩
              case measure => simp [intOf]; omega
        · have hd : decide ((j : Int) < s.size) = false := by simp; omega
          go_wp2_with fail
          go_meet
          exact ⟨j, rfl, by rw [unhide HLn], hij, hj, unhide HTk, rfl, .inl (by omega)⟩
    case rest =>
      obtain ⟨j, rfl, rfl, hij, hj, htk, rfl, hend⟩ := hcut
      have HTk : Hid (tokF s (posAt l l.length) = tokF s j) := hide ((htk.trans (unhide HM).tk).symm)
      have HO : Hid (wc.ownsRow w.heap.size 33 3 u6 l.length (tkCells L l)) := hide (unhide HM).tr
      have hsz1 := (unhide HM).be.size
      obtain ⟨ln, hln⟩ : ∃ ln, wrap64 (L + (cnt s j : Int)) = ln := ⟨_, rfl⟩
      rw [hln]
      have HLn := hide hln
      clear hln htk
      rcases hend with hje | ⟨hlt, h10, hsp, h35⟩
      · have hd : ((j : Int) == (s.size : Int)) = true := by simp; omega
        have HX : Hid (∀ v' w', w'.ownsRow w.heap.size 33 3 v' (l.length + 1) (tkCells L l ++ [.int .u8 0, .string ⟨#[]⟩, .int .i64 ln]) → (wc.alloc (.cells #[.int .u8 0, .string ⟨#[]⟩, .int .i64 ln] 33)).grownBy w' u6.ownBlock → TRow w.heap.size v' (l ++ [⟨0, [], cnt s j, j⟩]) L w' ∧ Below w.heap.size w w') := hide (fun v' w' ho hg => (unhide HM).tr.push (unhide HM).be hsz1 (by rw [← unhide HLn]; rfl) ho hg)
        go_wp2_with (at_builtin; refine wpList_append_own _ rfl _ _ 23 rfl w.heap.size 33 i0 (.agg #[.int .u8 0, .string ⟨#[]⟩, .int .i64 0]) 3 32 Tryf.underlying23 hi0 hz0 hz1 hz2 rfl (by decide) _ _ _ rfl ((unhide HO).alloc _) ⟨wc.heap.size, 0, none⟩ 1 1 [.int .u8 0, .string ⟨#[]⟩, .int .i64 ln] rfl rfl (cells_new3 _ _ _ _ _) (by simp [Value.oneCell']) (by unfold maxLen; omega) (by omega) (by simp; omega) ?_; intro v' w9 hown' hgrow _; have HR9 := hide (unhide HX v' w9 hown' hgrow); clear hown' hgrow)
        refine unhide HTr _ _ ⟨(unhide HR9).2, _, _, false, rfl, (unhide HR9).1, by rw [List.length_append, List.length_singleton]; omega, ?_⟩
        exact (unhide HM).ch.fin (by rw [unhide HTk]; exact tok_end (by omega)) rfl
      · have hd : ((j : Int) == (s.size : Int)) = false := by simp; omega
        have hji : decide ((j : Int) < s.size) = true := by simp; omega
        have HB := hide (byt_at s j hlt)
        have HNb := hide (And.intro h10 (And.intro hsp h35))
        clear h10 hsp h35
        by_cases h9 : s[j] = 91 ∨ s[j] = 93
        · have HTok : Hid (tokF s (posAt l l.length) = some ⟨byt s j, [], cnt s j, j + 1⟩) := hide (by rw [unhide HTk]; exact tok_br hlt (by rw [unhide HB]; exact h9))
          have HK0 : Hid (byt s j ≠ 0) := hide (by rw [unhide HB]; rcases h9 with h | h <;> rw [h] <;> decide)
          have HC1 : Hid (cnt s (j + 1) = cnt s j) := hide (cnt_no (unhide HNb).1)
          have j91 : ((s[j].toNat : Int) == 91) = (s[j] == 91) := u8_beq s[j] 91
          have j93 : ((s[j].toNat : Int) == 93) = (s[j] == 93) := u8_beq s[j] 93
          have HX : Hid (∀ v' w', w'.ownsRow w.heap.size 33 3 v' (l.length + 1) (tkCells L l ++ [.int .u8 (s[j].toNat : Int), .string ⟨#[]⟩, .int .i64 ln]) → (wc.alloc (.cells #[.int .u8 (s[j].toNat : Int), .string ⟨#[]⟩, .int .i64 ln] 33)).grownBy w' u6.ownBlock → TRow w.heap.size v' (l ++ [⟨byt s j, [], cnt s j, j + 1⟩]) L w' ∧ Below w.heap.size w w') := hide (fun v' w' ho hg => (unhide HM).tr.push (unhide HM).be hsz1 (by rw [← unhide HLn, ← unhide HB]; rfl) ho hg)
          have HN9 : Hid (∀ v' w9, (TRow w.heap.size v' (l ++ [⟨byt s j, [], cnt s j, j + 1⟩]) L w9 ∧ Below w.heap.size w w9) → MS s L (l ++ [⟨byt s j, [], cnt s j, j + 1⟩]) (j + 1) (.int .i64 ln) v' (.int .i64 (j + 1 : Nat)) w w9) := hide (fun v' w9 h9 => by
            have := (unhide HM).next (unhide HTok) (unhide HK0) (show i < j + 1 by omega) (show j + 1 ≤ s.size by omega) h9
            rw [show cnt s (Tk.pos ⟨byt s j, [], cnt s j, j + 1⟩) = cnt s j from unhide HC1, unhide HLn] at this
            exact this)
          cases h91 : s[j] == 91
          · have h93 : (s[j] == 93) = true := by
              rcases h9 with h | h
              · rw [h] at h91; cases h91
              · rw [h]; rfl
            rw [h91] at j91
            rw [h93] at j93
            clear h9 h91 h93
            go_wp2_with (at_builtin; refine wpList_append_own _ rfl _ _ 23 rfl w.heap.size 33 i0 (.agg #[.int .u8 0, .string ⟨#[]⟩, .int .i64 0]) 3 32 Tryf.underlying23 hi0 hz0 hz1 hz2 rfl (by decide) _ _ _ rfl ((unhide HO).alloc _) ⟨wc.heap.size, 0, none⟩ 1 1 [.int .u8 (s[j].toNat : Int), .string ⟨#[]⟩, .int .i64 ln] rfl rfl (cells_new3 _ _ _ _ _) (by simp [Value.oneCell']) (by unfold maxLen; omega) (by omega) (by simp; omega) ?_; intro v' w9 hown' hgrow _; have HR9 := hide (unhide HX v' w9 hown' hgrow); clear hown' hgrow)
            go_roundw
            case rel => exact ⟨j + 1, _, by have := unhide HN9 _ _ (unhide HR9); simpa using this⟩
            case measure => simp [intOf]; omega
          · rw [h91] at j91
            clear h9 h91 j93
            go_wp2_with (at_builtin; refine wpList_append_own _ rfl _ _ 23 rfl w.heap.size 33 i0 (.agg #[.int .u8 0, .string ⟨#[]⟩, .int .i64 0]) 3 32 Tryf.underlying23 hi0 hz0 hz1 hz2 rfl (by decide) _ _ _ rfl ((unhide HO).alloc _) ⟨wc.heap.size, 0, none⟩ 1 1 [.int .u8 (s[j].toNat : Int), .string ⟨#[]⟩, .int .i64 ln] rfl rfl (cells_new3 _ _ _ _ _) (by simp [Value.oneCell']) (by unfold maxLen; omega) (by omega) (by simp; omega) ?_; intro v' w9 hown' hgrow _; have HR9 := hide (unhide HX v' w9 hown' hgrow); clear hown' hgrow)
            go_roundw
            case rel => exact ⟨j + 1, _, by have := unhide HN9 _ _ (unhide HR9); simpa using this⟩
            case measure => simp [intOf]; omega
        · have h91 : ¬ s[j] = 91 := fun h => h9 (.inl h)
          have h93 : ¬ s[j] = 93 := fun h => h9 (.inr h)
          have j91 : ((s[j].toNat : Int) == 91) = false := (u8_beq s[j] 91).trans (by simpa using h91)
          have j93 : ((s[j].toNat : Int) == 93) = false := (u8_beq s[j] 93).trans (by simpa using h93)
          have HNc : Hid (byt s j ≠ 91 ∧ byt s j ≠ 93) := hide (by rw [unhide HB]; exact ⟨h91, h93⟩)
          clear h9 h91 h93
          by_cases h34 : s[j] = 34
          · have j34 : ((s[j].toNat : Int) == 34) = true := by rw [h34]; rfl
            have HQ : Hid (byt s j = 34) := hide ((unhide HB).trans h34)
            have HIx : Hid (Calls Tryf.prog 12 #[.string s, .int .i64 ((j : Int) + 1), .int .u8 34] wc fun e w' => w' = wc ∧ ((∃ k : Nat, j + 1 ≤ k ∧ k < s.size ∧ byt s k = 34 ∧ NoD s 34 (j + 1) k ∧ e = .returned (.int .i64 (k : Nat))) ∨ (NoD s 34 (j + 1) s.size ∧ e = .returned (.int .i64 (-1))))) := hide (indexFrom_any s (j + 1) 34 wc hs hlt)
            clear h34
            go_wp2_with fail
            refine (unhide HIx).mono ?_
            rintro e w'' ⟨rfl, ⟨k, k1, k2, k3, k4, rfl⟩ | ⟨k4, rfl⟩⟩
            · have hkd : decide ((k : Int) < 0) = false := by simp
              have HK := hide (And.intro k3 k4)
              obtain ⟨q, hq⟩ : ∃ q, j + 1 = q := ⟨_, rfl⟩
              have hqi : (j : Int) + 1 = (q : Int) := by omega
              have hqk : q ≤ k := by omega
              have HTok : Hid (tokF s (posAt l l.length) = some ⟨34, seg s (j + 1) (k - (j + 1)), cnt s j, k + 1⟩) := hide (by rw [unhide HTk]; exact tok_q hlt (unhide HQ) k1 k2 k3 k4)
              have HEx : Hid (s.extract q k = ⟨(seg s (j + 1) (k - (j + 1))).toArray⟩) := hide (by rw [hq]; exact extract_seg s q k (by omega))
              have HCnt : Hid (cnt s (k + 1) = cnt s j + nls (s.extract q k).data.toList) := hide (by
                have e1 : cnt s (k + 1) = cnt s k := cnt_no (by rw [k3]; decide)
                have e2 : cnt s q = cnt s j := by rw [← hq]; exact cnt_no (unhide HNb).1
                have e3 := cnt_add s q (k - q)
                rw [show q + (k - q) = k by omega] at e3
                rw [e1, e3, e2, extract_seg s q k (by omega)]
                rfl)
              have HN9 : Hid (∀ v' w9, (TRow w.heap.size v' (l ++ [⟨34, seg s (j + 1) (k - (j + 1)), cnt s j, k + 1⟩]) L w9 ∧ Below w.heap.size w w9) → MS s L (l ++ [⟨34, seg s (j + 1) (k - (j + 1)), cnt s j, k + 1⟩]) (k + 1) (.int .i64 (wrap64 (L + (cnt s (k + 1) : Int)))) v' (.int .i64 (k + 1 : Nat)) w w9) := hide (fun v' w9 h9 =>
                (unhide HM).next (unhide HTok) (show (34 : UInt8) ≠ 0 by decide) (show i < k + 1 by omega) (show k + 1 ≤ s.size by omega) h9)
              have HSz : Hid ((s.extract q k).size ≤ 2097152) := hide (by rw [ByteArray.size_extract]; omega)
              have HC10 := hide (fun w9 => countByte_any (s.extract q k) w9 (unhide HSz))
              clear k3 k4
              have HX : Hid (∀ v' w', w'.ownsRow w.heap.size 33 3 v' (l.length + 1) (tkCells L l ++ [.int .u8 34, .string (s.extract q k), .int .i64 ln]) → (w''.alloc (.cells #[.int .u8 34, .string (s.extract q k), .int .i64 ln] 33)).grownBy w' u6.ownBlock → TRow w.heap.size v' (l ++ [⟨34, seg s (j + 1) (k - (j + 1)), cnt s j, k + 1⟩]) L w' ∧ Below w.heap.size w w') := hide (fun v' w' ho hg => (unhide HM).tr.push (unhide HM).be hsz1 (by rw [← unhide HLn, unhide HEx]; rfl) ho hg)
              go_wp2_with (at_builtin; refine wpList_append_own _ rfl _ _ 23 rfl w.heap.size 33 i0 (.agg #[.int .u8 0, .string ⟨#[]⟩, .int .i64 0]) 3 32 Tryf.underlying23 hi0 hz0 hz1 hz2 rfl (by decide) _ _ _ rfl ((unhide HO).alloc _) ⟨w''.heap.size, 0, none⟩ 1 1 [.int .u8 34, .string (s.extract q k), .int .i64 ln] rfl rfl (cells_new3 _ _ _ _ _) (by simp [Value.oneCell']) (by unfold maxLen; omega) (by omega) (by simp; omega) ?_; intro v' w9 hown' hgrow _; have HR9 := hide (unhide HX v' w9 hown' hgrow); clear hown' hgrow)
              refine (unhide HC10 w9).mono ?_
              rintro e w' ⟨rfl, rfl⟩
              obtain ⟨C, hC⟩ : ∃ C : Nat, nls (s.extract q k).data.toList = C := ⟨_, rfl⟩
              rw [hC]
              have hlc : wrap64 (ln + (C : Int)) = wrap64 (L + (cnt s (k + 1) : Int)) := by
                rw [← unhide HLn, w64_add, unhide HCnt, hC]
                congr 1
                omega
              have hlc' : IntKind.i64.wrap (ln + (C : Int)) = wrap64 (L + (cnt s (k + 1) : Int)) := (i64w _).trans hlc
              obtain ⟨ln2, hln2⟩ : ∃ ln2, wrap64 (L + (cnt s (k + 1) : Int)) = ln2 := ⟨_, rfl⟩
              rw [hln2] at hlc hlc'
              rw [hln2] at HN9
              clear hC hln2
              go_wp2_with fail
              go_roundw
              case rel => exact ⟨k + 1, _, by have := unhide HN9 _ _ (unhide HR9); simpa using this⟩
              case measure => simp [intOf]; omega
            · have HK := hide k4
              clear k4
              go_wp2_with fail
              refine unhide HTr _ _ ⟨(unhide HM).be, _, _, true, rfl, (unhide HM).tr, by omega, ?_⟩
              exact (unhide HM).ch.bad (by rw [unhide HTk]; exact tok_qn hlt (unhide HQ) (unhide HK))
          · have j34 : ((s[j].toNat : Int) == 34) = false := (u8_beq s[j] 34).trans (by simpa using h34)
            have HQ : Hid (byt s j ≠ 34) := hide (by rw [unhide HB]; exact h34)
            clear h34
            obtain ⟨wp, hwp⟩ : ∃ wp, wp = wc := ⟨_, rfl⟩
            subst hwp
            have HTw : Hid (∀ E, wEnd s j j false = E → tokF s (posAt l l.length) = some ⟨119, seg s j (E - j), cnt s j, E⟩) := hide (fun E hE => by
              obtain ⟨a, b, c⟩ := unhide HNb
              rw [unhide HTk, tok_w hlt a b c (unhide HNc).1 (unhide HNc).2 (unhide HQ), hE])
            have HIn0 : Hid (inw (byt s j) = true) := hide (inw_of (unhide HNb).1 (unhide HNb).2.1 (unhide HNc).1 (unhide HNc).2 (unhide HQ))
            have HXg : Hid (∀ E2, wEnd s j j false = E2 → E2 ≤ s.size → ∀ v' w', w'.ownsRow w.heap.size 33 3 v' (l.length + 1) (tkCells L l ++ [.int .u8 119, .string (s.extract j E2), .int .i64 ln]) → (wp.alloc (.cells #[.int .u8 119, .string (s.extract j E2), .int .i64 ln] 33)).grownBy w' u6.ownBlock → TRow w.heap.size v' (l ++ [⟨119, seg s j (E2 - j), cnt s j, E2⟩]) L w' ∧ Below w.heap.size w w') := hide (fun E2 _ hE2 v' w' ho hg => (unhide HM).tr.push (unhide HM).be hsz1 (by rw [← unhide HLn, extract_seg s j E2 hE2]; rfl) ho hg)
            have HN9g : Hid (∀ E2, wEnd s j j false = E2 → E2 ≤ s.size → ∀ v' w9, (TRow w.heap.size v' (l ++ [⟨119, seg s j (E2 - j), cnt s j, E2⟩]) L w9 ∧ Below w.heap.size w w9) → MS s L (l ++ [⟨119, seg s j (E2 - j), cnt s j, E2⟩]) E2 (.int .i64 ln) v' (.int .i64 (E2 : Nat)) w w9) := hide (fun E2 hE hE2 v' w9 h9 => by
              have hgt := wEnd_gt hlt (unhide HIn0)
              rw [hE] at hgt
              have hc : cnt s E2 = cnt s j := by
                have hn := wEnd_no10 s j j false
                rw [hE] at hn
                exact cnt_noD (by omega) hn
              have := (unhide HM).next (unhide HTw E2 hE) (show (119 : UInt8) ≠ 0 by decide) (show i < E2 by omega) hE2 h9
              rw [show cnt s (Tk.pos ⟨119, seg s j (E2 - j), cnt s j, E2⟩) = cnt s j from hc, unhide HLn] at this
              exact this)
            go_upto_block 4 with fail
            go_cut [13] from 101 to 112 (fun v13 wx => ∃ E, v13 = .int .i64 (E : Nat) ∧ WRun s j E ∧ wx = wp)
            case first =>
              go_wp2_with fail
              go_loopw [13] (fun v13 wx => ∃ E, v13 = .int .i64 (E : Nat) ∧ j ≤ E ∧ E ≤ s.size ∧ (∀ k, j ≤ k → k < E → inw (byt s k) = true) ∧ wx = wp) (fun v13 _ => s.size - (intOf v13).toNat)
              case atStart => exact ⟨j, rfl, Nat.le_refl _, hj, fun k a b => by omega, rfl⟩
              case round =>
                obtain ⟨E, rfl, hjE, hE, hin, rfl⟩ := hrel
                have HIn := hide hin
                clear hin
                by_cases hlt2 : E < s.size
                · have hd2 : decide ((E : Int) < s.size) = true := by simp; omega
                  have HB2 := hide (byt_at s E hlt2)
                  have HW := hide (inWord_any s[E] wr)
                  cases hiw : inw s[E]
                  · rw [hiw] at HW
                    have HI2 : Hid (inw (byt s E) = false) := hide (by rw [unhide HB2]; exact hiw)
                    clear hiw
                    go_wp2_with fail
                    refine (unhide HW).mono ?_
                    rintro e w' ⟨rfl, rfl⟩
                    go_wp2_with fail
                    go_meet
                    exact ⟨E, rfl, ⟨hjE, hE, unhide HIn, .inr ⟨hlt2, unhide HI2⟩⟩, rfl⟩
                  · rw [hiw] at HW
                    have HI2 : Hid (inw (byt s E) = true) := hide (by rw [unhide HB2]; exact hiw)
                    clear hiw
                    go_wp2_with fail
                    refine (unhide HW).mono ?_
                    rintro e w' ⟨rfl, rfl⟩
                    go_wp2_with fail
                    go_roundw
                    case rel =>
                      refine ⟨E + 1, by go_num, by omega, by omega, fun k a b => ?_, trivial⟩
                      by_cases hk : k = E
                      · rw [hk]; exact unhide HI2
                      · exact unhide HIn k a (by omega)
                    case measure => simp [intOf]; omega
                · have hd2 : decide ((E : Int) < s.size) = false := by simp; omega
                  go_wp2_with fail
                  go_meet
                  exact ⟨E, rfl, ⟨hjE, hE, unhide HIn, .inl (by omega)⟩, rfl⟩
            case rest =>
              obtain ⟨E, rfl, hrun, rfl⟩ := hcut
              have hjE : j < E := by
                rcases Nat.lt_or_ge j E with h | h
                · exact h
                · have hle := hrun.le
                  obtain rfl : j = E := by omega
                  rcases hrun.out with h | ⟨_, h⟩
                  · omega
                  · rw [unhide HIn0] at h; cases h
              have hEs := hrun.sz
              obtain ⟨M, hM⟩ : ∃ M, E - j = M := ⟨_, rfl⟩
              have hMi : (E : Int) - (j : Int) = (M : Int) := by omega
              have HRun := hide hrun
              have HSz : Hid ((s.extract j E).size = M) := hide (by rw [ByteArray.size_extract]; omega)
              have HBx : Hid (∀ k, k < M → byt (s.extract j E) k = byt s (j + k)) := hide (fun k hk => by rw [extract_seg s j E hEs]; exact byt_seg s j (E - j) k (by omega))
              have HStr := hide (stranger_any (s.extract j E) wc (by rw [unhide HSz]; omega))
              clear hrun
              go_wp2_with fail
              refine (unhide HStr).mono ?_
              rintro e w'' ⟨rfl, ⟨k, k1, k2, k3, rfl⟩ | ⟨k3, rfl⟩⟩
              · rw [unhide HSz] at k1
                have hk0 : decide ((0 : Int) ≤ (k : Int)) = true := by simp
                have HWe : Hid (wEnd s j j false = min E (j + max (k + 1) 65)) := hide (by
                  refine wEnd_some (unhide HRun) (by omega) (fun q a b => ?_) (by rw [← unhide HBx k k1]; exact k2)
                  have := k3 (q - j) (by omega)
                  rwa [unhide HBx (q - j) (by omega), show j + (q - j) = q by omega] at this)
                obtain ⟨K1, hK1⟩ : ∃ K1, k + 1 = K1 := ⟨_, rfl⟩
                have hK1i : (k : Int) + 1 = (K1 : Int) := by omega
                clear k2 k3
                by_cases c65 : K1 < 65
                · have hd65 : decide ((K1 : Int) < 65) = true := by simp; omega
                  by_cases cM : 65 < M
                  · have hdM : decide ((65 : Int) < (M : Int)) = true := by simp; omega
                    obtain ⟨E2, hE2⟩ : ∃ E2, j + 65 = E2 := ⟨_, rfl⟩
                    have hE2i : (j : Int) + 65 = (E2 : Int) := by omega
                    have HX := hide (unhide HXg E2 (by rw [unhide HWe]; omega) (by omega))
                    have HN9 := hide (unhide HN9g E2 (by rw [unhide HWe]; omega) (by omega))
                    go_wp2_with (at_builtin; refine wpList_append_own _ rfl _ _ 23 rfl w.heap.size 33 i0 (.agg #[.int .u8 0, .string ⟨#[]⟩, .int .i64 0]) 3 32 Tryf.underlying23 hi0 hz0 hz1 hz2 rfl (by decide) _ _ _ rfl ((unhide HO).alloc _) ⟨w''.heap.size, 0, none⟩ 1 1 [.int .u8 119, .string (s.extract j E2), .int .i64 ln] rfl rfl (cells_new3 _ _ _ _ _) (by simp [Value.oneCell']) (by unfold maxLen; omega) (by omega) (by simp; omega) ?_; intro v' w9 hown' hgrow _; have HR9 := hide (unhide HX v' w9 hown' hgrow); clear hown' hgrow)
                    go_roundw
                    case rel => exact ⟨E2, _, by have := unhide HN9 _ _ (unhide HR9); simpa using this⟩
                    case measure => simp [intOf]; omega
                  · have hdM : decide ((65 : Int) < (M : Int)) = false := by simp; omega
                    obtain ⟨E2, hE2⟩ : ∃ E2, j + M = E2 := ⟨_, rfl⟩
                    have hE2i : (j : Int) + (M : Int) = (E2 : Int) := by omega
                    have HX := hide (unhide HXg E2 (by rw [unhide HWe]; omega) (by omega))
                    have HN9 := hide (unhide HN9g E2 (by rw [unhide HWe]; omega) (by omega))
                    go_wp2_with (at_builtin; refine wpList_append_own _ rfl _ _ 23 rfl w.heap.size 33 i0 (.agg #[.int .u8 0, .string ⟨#[]⟩, .int .i64 0]) 3 32 Tryf.underlying23 hi0 hz0 hz1 hz2 rfl (by decide) _ _ _ rfl ((unhide HO).alloc _) ⟨w''.heap.size, 0, none⟩ 1 1 [.int .u8 119, .string (s.extract j E2), .int .i64 ln] rfl rfl (cells_new3 _ _ _ _ _) (by simp [Value.oneCell']) (by unfold maxLen; omega) (by omega) (by simp; omega) ?_; intro v' w9 hown' hgrow _; have HR9 := hide (unhide HX v' w9 hown' hgrow); clear hown' hgrow)
                    go_roundw
                    case rel => exact ⟨E2, _, by have := unhide HN9 _ _ (unhide HR9); simpa using this⟩
                    case measure => simp [intOf]; omega
                · have hd65 : decide ((K1 : Int) < 65) = false := by simp; omega
                  by_cases cM : K1 < M
                  · have hdM : decide ((K1 : Int) < (M : Int)) = true := by simp; omega
                    obtain ⟨E2, hE2⟩ : ∃ E2, j + K1 = E2 := ⟨_, rfl⟩
                    have hE2i : (j : Int) + (K1 : Int) = (E2 : Int) := by omega
                    have HX := hide (unhide HXg E2 (by rw [unhide HWe]; omega) (by omega))
                    have HN9 := hide (unhide HN9g E2 (by rw [unhide HWe]; omega) (by omega))
                    go_wp2_with (at_builtin; refine wpList_append_own _ rfl _ _ 23 rfl w.heap.size 33 i0 (.agg #[.int .u8 0, .string ⟨#[]⟩, .int .i64 0]) 3 32 Tryf.underlying23 hi0 hz0 hz1 hz2 rfl (by decide) _ _ _ rfl ((unhide HO).alloc _) ⟨w''.heap.size, 0, none⟩ 1 1 [.int .u8 119, .string (s.extract j E2), .int .i64 ln] rfl rfl (cells_new3 _ _ _ _ _) (by simp [Value.oneCell']) (by unfold maxLen; omega) (by omega) (by simp; omega) ?_; intro v' w9 hown' hgrow _; have HR9 := hide (unhide HX v' w9 hown' hgrow); clear hown' hgrow)
                    go_roundw
                    case rel => exact ⟨E2, _, by have := unhide HN9 _ _ (unhide HR9); simpa using this⟩
                    case measure => simp [intOf]; omega
                  · have hdM : decide ((K1 : Int) < (M : Int)) = false := by simp; omega
                    obtain ⟨E2, hE2⟩ : ∃ E2, j + M = E2 := ⟨_, rfl⟩
                    have hE2i : (j : Int) + (M : Int) = (E2 : Int) := by omega
                    have HX := hide (unhide HXg E2 (by rw [unhide HWe]; omega) (by omega))
                    have HN9 := hide (unhide HN9g E2 (by rw [unhide HWe]; omega) (by omega))
                    go_wp2_with (at_builtin; refine wpList_append_own _ rfl _ _ 23 rfl w.heap.size 33 i0 (.agg #[.int .u8 0, .string ⟨#[]⟩, .int .i64 0]) 3 32 Tryf.underlying23 hi0 hz0 hz1 hz2 rfl (by decide) _ _ _ rfl ((unhide HO).alloc _) ⟨w''.heap.size, 0, none⟩ 1 1 [.int .u8 119, .string (s.extract j E2), .int .i64 ln] rfl rfl (cells_new3 _ _ _ _ _) (by simp [Value.oneCell']) (by unfold maxLen; omega) (by omega) (by simp; omega) ?_; intro v' w9 hown' hgrow _; have HR9 := hide (unhide HX v' w9 hown' hgrow); clear hown' hgrow)
                    go_roundw
                    case rel => exact ⟨E2, _, by have := unhide HN9 _ _ (unhide HR9); simpa using this⟩
                    case measure => simp [intOf]; omega
              · rw [unhide HSz] at k3
                have HWe : Hid (wEnd s j j false = E) := hide (by
                  refine wEnd_none (unhide HRun) (fun q a b => ?_)
                  have := k3 (q - j) (by omega)
                  rwa [unhide HBx (q - j) (by omega), show j + (q - j) = q by omega] at this)
                clear k3
                obtain ⟨E2, hE2⟩ : ∃ E2, j + M = E2 := ⟨_, rfl⟩
                have hE2i : (j : Int) + (M : Int) = (E2 : Int) := by omega
                have HX := hide (unhide HXg E2 (by rw [unhide HWe]; omega) (by omega))
                have HN9 := hide (unhide HN9g E2 (by rw [unhide HWe]; omega) (by omega))
                go_wp2_with (at_builtin; refine wpList_append_own _ rfl _ _ 23 rfl w.heap.size 33 i0 (.agg #[.int .u8 0, .string ⟨#[]⟩, .int .i64 0]) 3 32 Tryf.underlying23 hi0 hz0 hz1 hz2 rfl (by decide) _ _ _ rfl ((unhide HO).alloc _) ⟨w''.heap.size, 0, none⟩ 1 1 [.int .u8 119, .string (s.extract j E2), .int .i64 ln] rfl rfl (cells_new3 _ _ _ _ _) (by simp [Value.oneCell']) (by unfold maxLen; omega) (by omega) (by simp; omega) ?_; intro v' w9 hown' hgrow _; have HR9 := hide (unhide HX v' w9 hown' hgrow); clear hown' hgrow)
                go_roundw
                case rel => exact ⟨E2, _, by have := unhide HN9 _ _ (unhide HR9); simpa using this⟩
                case measure => simp [intOf]; omega
end Go.Proofs.Qxb6614301aFmt
