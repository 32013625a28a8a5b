import Derived.Test.Qxb6613049aFmtW12
namespace Go.Proofs.Qxb6613049aFmt
open Go.RowKit Go.Stop

theorem extract_size (s : ByteArray) (k m : Nat) : (s.extract k m).size ≤ s.size := by rw [ByteArray.size_extract]; omega
theorem info9 : (Tryf.prog.info? 9).map (fun i => (i.zero, i.size, i.bytes)) = some (some (.string ⟨#[]⟩), 1, 16) := by kernel_rfl

/-- A row of strings of the call's own. -/
def SRow (B : Nat) (v : Value) (n : Nat) (w : World) : Prop := ∃ xs, w.ownsRow B 9 1 v n xs ∧ ∀ x ∈ xs, ∃ s, x = .string s

theorem cells_new1 (w : World) (a : Value) : ∀ (j : Nat) (u : Value), ([a] : List Value)[j]? = some u → (w.alloc (.cells #[a] 9)).cell? ((⟨w.heap.size, 0, none⟩ : Addr).add j) = some u := by
  intro j u h
  have hb : (w.alloc (.cells #[a] 9)).heap[w.heap.size]? = some (.cells #[a] 9 (0, 0)) := Array.getElem?_push_size
  generalize w.alloc (.cells #[a] 9) = W at *
  match j, h with
  | 0, h => cases h; simp [World.cell?, Addr.add, hb]
  | j + 1, h => simp at h

theorem ownB {w : World} {B n : Nat} {e : TypeId} {v : Value} {xs : List Value} (h : w.ownsRow B e 1 v n xs) : ∀ j, v.ownBlock = some j → B ≤ j := by
  intro j hj
  rcases h.2 with ⟨h1, _⟩ | ⟨g, cap, cur, h3, h4, h5, _⟩
  · rw [h1] at hj; cases hj
  · rw [h3] at hj; cases hj; exact h4
theorem own_below {w w' : World} {B n : Nat} {e : TypeId} {v : Value} {xs : List Value} (h : w.ownsRow B e 1 v n xs) (hb : Below w.heap.size w w') : w'.ownsRow B e 1 v n xs := by
  refine ⟨h.1, ?_⟩
  rcases h.2 with h1 | ⟨g, cap, cur, h3, h4, h5, h6⟩
  · exact .inl h1
  · exact .inr ⟨g, cap, cur, h3, h4, (hb.block g (Array.getElem?_eq_some_iff.1 h5).1).trans h5, h6⟩

set_option maxRecDepth 100000 in
set_option maxHeartbeats 2000000 in
theorem zzTcharRuns_any (s : ByteArray) (w : World) (hs : s.size ≤ 4194304) :
    Calls Tryf.prog 14 #[.string s] w fun e w' => (∃ v n, e = .returned v ∧ n ≤ 4194304 ∧ SRow w.heap.size v n w') ∧ Below w.heap.size w w' := by
  obtain ⟨i0, hi0, hz0, hz1, hz2⟩ := info_parts info9
  have hl : s.data.toList.length = s.size := by simp
  have HL := hide hl
  clear hl
  go_enter Tryf.func14, Tryf.ntmps14
  go_wp2_with fail
  go_loopw [3, 4, 5] (fun v i _ wr => ∃ k n : Nat, k ≤ s.size ∧ n ≤ k ∧ i = .int .i64 k ∧ SRow w.heap.size v n wr ∧ Below w.heap.size w wr) (fun _ i _ _ => s.size - (intOf i).toNat)
  case atStart => exact ⟨0, 0, Nat.zero_le _, Nat.le_refl _, rfl, ⟨[], World.ownsRow_nil _ _ _ _, by simp⟩, Below.refl _ _⟩
  case round =>
    obtain ⟨k, n, hk, hnk, rfl, hsr, hbe⟩ := hrel
    have HSr := hide hsr
    have HBe := hide hbe
    clear hsr hbe
    by_cases hlt : k < s.size
    · cases ht : tch s[k] with
      | false =>
        go_wp2_with (go_at_call 21; refine (zzIsTchar_any _ _).mono ?_; rw [ht]; rintro e w' ⟨rfl, rfl⟩)
        go_roundw
        case rel => exact ⟨k + 1, n, by omega, by omega, by go_num, unhide HSr, unhide HBe⟩
        case measure => simp [intOf]; omega
      | true =>
        go_upto_block 2 with (go_at_call 21; refine (zzIsTchar_any _ _).mono ?_; rw [ht]; rintro e w' ⟨rfl, rfl⟩)
        go_cut [5] from 18 to 29 (fun j wx => ∃ m : Nat, k < m ∧ m ≤ s.size ∧ j = .int .i64 m ∧ wx = wr)
        case first =>
          go_wp2_with fail
          go_loop [5] (fun j => ∃ m : Nat, k ≤ m ∧ m ≤ s.size ∧ j = .int .i64 m) (fun j => s.size - (intOf j).toNat)
          case atStart => exact ⟨k, Nat.le_refl _, hk, rfl⟩
          case round =>
            obtain ⟨m, hkm, hm, rfl⟩ := hrel
            by_cases hmlt : m < s.size
            · have hd : decide ((m : Int) < s.size) = true := by simp; omega
              cases htm : tch s[m] with
              | true =>
                go_wp2_with (go_at_call 21; refine (zzIsTchar_any _ _).mono ?_; rw [htm]; rintro e w' ⟨rfl, rfl⟩)
                go_round
                case rel => exact ⟨m + 1, by omega, by omega, by go_num⟩
                case measure => simp [intOf]; omega
              | false =>
                have hkm' : k < m := by
                  rcases Nat.lt_or_ge k m with h | h
                  · exact h
                  · obtain rfl : k = m := by omega
                    rw [ht] at htm; cases htm
                go_wp2_with (go_at_call 21; refine (zzIsTchar_any _ _).mono ?_; rw [htm]; rintro e w' ⟨rfl, rfl⟩)
                go_meet
                case rel => exact ⟨m, hkm', hm, rfl, rfl⟩
            · have hd : decide ((m : Int) < s.size) = false := by simp; omega
              go_wp2_with fail
              go_meet
              case rel => exact ⟨m, by omega, hm, rfl, rfl⟩
        case rest =>
          obtain ⟨m, hkm, hm, rfl, rfl⟩ := hcut
          go_wp2_with fail
          refine (zzLower_any (s.extract k m) wc (Nat.le_trans (extract_size s k m) hs)).mono ?_
          rintro e w1 ⟨⟨t, rfl⟩, hb1⟩
          obtain ⟨xs, hown, hstr⟩ := unhide HSr
          have hown1 := own_below hown hb1
          have hbe1 : Below w.heap.size w w1 := (unhide HBe).trans (hb1.mono (unhide HBe).size)
          have HO := hide hown1
          have HB1 := hide hbe1
          have hsz1 := hbe1.size
          have HX : Hid (∀ v' w', w'.ownsRow w.heap.size 9 1 v' (n + 1) (xs ++ [.string t]) → (w1.alloc (.cells #[.string t] 9)).grownBy w' u3.ownBlock → SRow w.heap.size v' (n + 1) w' ∧ Below w.heap.size w w') := hide (fun v' w' ho' hg' => by
            refine ⟨⟨_, ho', fun x hx => ?_⟩, ((unhide HB1).alloc hsz1 _).grown hg' (by simp; omega) (ownB hown)⟩
            rcases List.mem_append.1 hx with h | h
            · exact hstr x h
            · exact ⟨t, by simpa using h⟩)
          clear hown hown1 hbe1 hb1 hstr
          go_wp2_with (at_builtin; refine wpList_append_own _ rfl _ _ 22 rfl w.heap.size 9 i0 (.string ⟨#[]⟩) 1 16 Tryf.underlying22 hi0 hz0 hz1 hz2 rfl (by decide) _ _ _ rfl ((unhide HO).alloc _) ⟨w1.heap.size, 0, none⟩ 1 1 [.string t] rfl rfl (cells_new1 _ _) (by simp [Value.oneCell']) (by unfold maxLen; omega) (by omega) (by simp; omega) ?_; intro v' w9 hown' hgrow _; have HR9 := hide (unhide HX v' w9 hown' hgrow); clear hown' hgrow)
          go_roundw
          case rel => exact ⟨m, n + 1, hm, by omega, rfl, (unhide HR9).1, (unhide HR9).2⟩
          case measure => simp [intOf]; omega
    · go_wp2_with fail
      go_ret
      exact ⟨⟨_, n, rfl, by omega, unhide HSr⟩, unhide HBe⟩
end Go.Proofs.Qxb6613049aFmt
