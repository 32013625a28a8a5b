import Derived.Test.Qxb6614301aFmtW12
import Derived.Test.Qxb6614301aFmtW13
namespace Go.Proofs.Qxb6614301aFmt
open Go.RowKit
open Go.Extern.Stop Go.Stop Go.Extern

/-- The line breaks of l. -/
def nls (l : List UInt8) : Nat := l.count 10
theorem count_take_hit {l : List UInt8} {k : Nat} (h : k < l.length) (hc : l[k] = 10) : nls (l.take (k + 1)) = nls (l.take k) + 1 := by
  unfold nls
  rw [List.take_add_one, List.getElem?_eq_getElem h, hc]; simp
theorem count_take_miss {l : List UInt8} {k : Nat} (h : k < l.length) (hc : ¬ l[k] = 10) : nls (l.take (k + 1)) = nls (l.take k) := by
  unfold nls
  rw [List.take_add_one, List.getElem?_eq_getElem h]
  simp only [List.count_append, Option.toList_some, List.count_cons, List.count_nil, beq_iff_eq, if_neg hc]
  rfl
set_option maxRecDepth 100000 in
theorem countByte_any (s : ByteArray) (w : World) (hs : s.size ≤ 2097152) :
    Calls Tryf.prog 10 #[.string s, .int .u8 10] w fun e w' => e = .returned (.int .i64 (nls s.data.toList : Nat)) ∧ w' = w := by
  have hl : s.data.toList.length = s.size := by simp
  have HL := hide hl
  clear hl
  go_enter Tryf.func10, Tryf.ntmps10
  go_wp2_with fail
  go_loop [5, 6] (fun v i => ∃ k n : Nat, k ≤ s.size ∧ i = .int .i64 k ∧ v = .int .i64 n ∧ n = nls (s.data.toList.take k) ∧ n ≤ k) (fun _ i => s.size - (intOf i).toNat)
  case atStart => exact ⟨0, 0, Nat.zero_le _, rfl, rfl, by simp [nls], Nat.le_refl _⟩
  case round =>
    obtain ⟨k, n, hk, rfl, rfl, hn, hnk⟩ := hrel
    have HN := hide hn
    clear hn
    by_cases hlt : k < s.size
    · have hget : s.data.toList[k]'(by rw [unhide HL]; exact hlt) = s[k] := by
        rw [Array.getElem_toList]; rfl
      have HG := hide hget
      clear hget
      by_cases hc : s[k] = 10
      · have hc' : ((s[k].toNat : Int) == 10) = true := by rw [hc]; rfl
        have HC := hide hc
        clear hc
        go_wp2_with fail
        go_round
        case rel => exact ⟨k + 1, n + 1, hlt, by go_num, by go_num, by rw [count_take_hit (by rw [unhide HL]; exact hlt) (by rw [unhide HG]; exact unhide HC), ← unhide HN], by omega⟩
        case measure => simp [intOf]; omega
      · have hc' : ((s[k].toNat : Int) == 10) = false := (u8_beq s[k] 10).trans (by simpa using hc)
        have HC := hide hc
        clear hc
        go_wp2_with fail
        go_round
        case rel => exact ⟨k + 1, n, hlt, by go_num, by go_num, by rw [count_take_miss (by rw [unhide HL]; exact hlt) (by rw [unhide HG]; exact unhide HC), ← unhide HN], by omega⟩
        case measure => simp [intOf]; omega
    · go_wp2_with fail
      go_ret
      refine ⟨?_, rfl⟩
      rw [unhide HN, List.take_of_length_le (by rw [unhide HL]; omega)]
      rfl

theorem seg_all (s : ByteArray) : seg s 0 s.size = s.data.toList := by
  apply List.ext_getElem?
  intro k
  have hl : s.data.toList.length = s.size := by simp
  by_cases h : k < s.size
  · rw [seg_get s 0 s.size k h, Nat.zero_add, List.getElem?_eq_getElem (by rw [hl]; exact h)]
    unfold byt
    rw [List.getD, List.getElem?_eq_getElem (by rw [hl]; exact h)]
    rfl
  · rw [List.getElem?_eq_none (by rw [seg_len]; omega), List.getElem?_eq_none (by rw [hl]; omega)]
theorem nls_all (s : ByteArray) : nls s.data.toList = cnt s s.size := by unfold nls cnt; rw [seg_all]
theorem inw_of {c : UInt8} (h1 : c ≠ 10) (h2 : spc c = false) (h4 : c ≠ 91) (h5 : c ≠ 93) (h6 : c ≠ 34) : inw c = true := by
  unfold inw
  simp [h1, h2, h4, h5, h6]
theorem wEnd_gt {s : ByteArray} {p : Nat} (h : p < s.size) (hi : inw (byt s p) = true) : p < wEnd s p p false := by
  rw [← wEnd_step h hi rfl]
  exact wEnd_ge _ _ _ _
theorem tokF_adv (s : ByteArray) : ∀ (m p : Nat), s.size - p = m → p ≤ s.size → ∀ t, tokF s p = some t → (t.kind = 0 ∧ t.line = cnt s s.size ∧ t.pos = s.size) ∨ (t.kind ≠ 0 ∧ p < t.pos) := by
  intro m
  induction m using Nat.strongRecOn with
  | _ m ih =>
    intro p hm hp t h
    by_cases hlt : p < s.size
    · by_cases h1 : byt s p = 10 ∨ spc (byt s p) = true
      · rw [tok_skip hlt h1] at h
        rcases ih (s.size - (p + 1)) (by omega) (p + 1) rfl (by omega) t h with h | ⟨h, h'⟩
        · exact .inl h
        · exact .inr ⟨h, by omega⟩
      · by_cases h2 : byt s p = 35
        · rw [tok_com hlt h2] at h
          have hn := nxt_ge s 10 (p + 1)
          rcases ih (s.size - min (nxt s 10 (p + 1) + 1) s.size) (by omega) _ rfl (by omega) t h with h | ⟨h, h'⟩
          · exact .inl h
          · exact .inr ⟨h, by omega⟩
        · by_cases h3 : byt s p = 91 ∨ byt s p = 93
          · rw [tok_br hlt h3] at h
            cases h
            refine .inr ⟨?_, Nat.lt_succ_self _⟩
            rcases h3 with h | h <;> simp [h]
          · by_cases h4 : byt s p = 34
            · rw [tokF_eq, dif_pos hlt, if_neg h1, if_neg h2, if_neg h3, if_pos h4] at h
              split at h
              · cases h
                have hn := nxt_ge s 34 (p + 1)
                exact .inr ⟨show (34 : UInt8) ≠ 0 by decide, by simp only; omega⟩
              · cases h
            · simp only [not_or] at h1 h3
              rw [tok_w hlt h1.1 (by simpa using h1.2) h2 h3.1 h3.2 h4] at h
              cases h
              exact .inr ⟨show (119 : UInt8) ≠ 0 by decide, wEnd_gt hlt (inw_of h1.1 (by simpa using h1.2) h3.1 h3.2 h4)⟩
    · rw [tok_end hlt] at h
      cases h
      have : p = s.size := by omega
      subst this
      exact .inl ⟨rfl, rfl, rfl⟩

/-- What ZZtoken leaves. -/
def ZPost (ea : Addr) (pb rb sb bb : Nat) (name s : ByteArray) (L : Int) (p : Nat) (w : World) (e : Ending) (w' : World) : Prop :=
  Tch [pb, rb, sb, bb] w w' ∧
  ((tokF s p = none ∧ ∃ v, e = .returned (.tuple #[.int .u8 0, .string ⟨#[]⟩, .int .i64 0, .iface 100 v])) ∨
   (∃ t, tokF s p = some t ∧ e = .returned (.tuple #[.int .u8 (t.kind.toNat : Int), .string ⟨t.text.toArray⟩, .int .i64 (wrap64 (L + (t.line : Int))), .nilIface]) ∧ RD ea rb sb bb s t.pos w' ∧ PB pb rb name L (cnt s t.pos) w'))

set_option maxRecDepth 100000 in
set_option maxHeartbeats 1000000 in
theorem zztoken_any (F : Interp) (ea fa : Addr) (pb rb sb bb : Nat) (name s : ByteArray) (L : Int) (p : Nat) (w : World) (hF : F.answers w.tape) (h : RD ea rb sb bb s p w) (hp : PB pb rb name L (cnt s p) w) (hs : s.size ≤ 2097152) (hg : Gl ea fa [pb, rb, sb, bb] w) :
    Calls Tryf.prog 8 #[.pointer (some ⟨pb, 0, none⟩)] w (ZPost ea pb rb sb bb name s L p w) := by
  generalize hT : ZPost ea pb rb sb bb name s L p w = T
  have HTr := hide (show ∀ (e : Ending) (w' : World), ZPost ea pb rb sb bb name s L p w e w' → T e w' from fun e w' h => by rw [← hT]; exact h)
  have HTok := hide (token_any F ea fa pb rb sb bb name s L p w hF h hp hs hg)
  clear hT hF h hp hs hg
  go_enter Tryf.func8, Tryf.ntmps8
  go_wp2_with fail
  refine (unhide HTok).mono ?_
  rintro e w1 ⟨ht, ⟨hn, v, rfl⟩ | ⟨t, hs, rfl, hrd, hpb⟩⟩
  · have HK := hide (And.intro ht hn)
    clear ht hn
    go_wp2_with fail
    go_quiet (fail)
    go_wp2_with fail
    obtain ⟨k1, k2⟩ := unhide HK
    exact bodyPost_ret (v := .tuple #[.int .u8 0, .string ⟨#[]⟩, .int .i64 0, .iface 100 v]) (by simp [results, Tryf.results8]) rfl (unhide HTr _ _ ⟨(k1.alloc _).drewN _, .inl ⟨k2, v, rfl⟩⟩)
  · have HK := hide (And.intro ht (And.intro hs (And.intro hrd hpb)))
    clear ht hs hrd hpb
    unfold tokV
    go_wp2_with fail
    go_quiet (fail)
    go_wp2_with fail
    obtain ⟨k1, k2, k3, k4⟩ := unhide HK
    have k5 : ∀ o m, Tch [] w1 ((w1.alloc o).drewN m) := fun o m => ((Tch.refl [] w1).alloc o).drewN m
    exact bodyPost_ret (v := .tuple #[.int .u8 (t.kind.toNat : Int), .string ⟨t.text.toArray⟩, .int .i64 (wrap64 (L + (t.line : Int))), .nilIface]) (by simp [results, Tryf.results8]) rfl (unhide HTr _ _ ⟨(k1.alloc _).drewN _, .inr ⟨t, k2, rfl, k3.tch (k5 _ _) (by simp), k4.tch (k5 _ _) (by simp)⟩⟩)
end Go.Proofs.Qxb6614301aFmt
