import Derived.Test.Qxb6613049aFmtW10
import Derived.Test.Qxb6613049aFmtW2b
namespace Go.Proofs.Qxb6613049aFmt
open Go.RowKit Go.Stop

theorem newReader_any (s : ByteArray) (w : World) :
    Calls Tryf.prog 8 #[.string s, .int .i64 0, .int .i64 0] w fun e w' => e = .returned (.pointer (some ⟨w.heap.size, 0, none⟩)) ∧ w.alloc (.cells #[.string s, .int .i64 0, .int .i64 0] 53) = w' := by
  go_enter Tryf.func8, Tryf.ntmps8
  go_wp2
  go_ret
  exact ⟨rfl, rfl⟩

theorem readerPos_any (rb : Nat) (s : ByteArray) (p : Int) (w : World) (h : Rd rb s p w) :
    Calls Tryf.prog 11 #[.pointer (some ⟨rb, 0, none⟩)] w fun e w' => e = .returned (.int .i64 p) ∧ w = w' := by
  obtain ⟨r, c0, c1, c2, f1, f2⟩ := h.cells
  clear h
  go_enter Tryf.func11, Tryf.ntmps11
  go_wp2
  go_ret
  exact ⟨rfl, rfl⟩

theorem zzChallenges_any (F : Interp) (B rb : Nat) (s : ByteArray) (cs0 : List Chal) (v0 : Value) (xs0 : List Value) (w : World) (hF : F.answers w.tape) (h : Rd rb s 0 w) (hB : B ≤ rb) (hs : s.size ≤ 4194304)
    (hA : cs0.length ≤ 4194304) (hown : w.ownsRow B 39 3 v0 cs0.length xs0) (hrow : Row cs0 xs0 w) :
    Calls Tryf.prog 9 #[.pointer (some ⟨rb, 0, none⟩), v0] w (Chs B rb s (chals (s.size + 1) s.data.toList cs0) w) := by
  have hc := challenges_any F B rb s 0 cs0 v0 xs0 w hF (by exact h) hB (Nat.zero_le _) hs hA hown hrow
  rw [List.drop_zero] at hc
  generalize chals (s.size + 1) s.data.toList cs0 = R at *
  generalize hT : Chs B rb s R w = T at *
  have hTr : ∀ (e : Ending) (w' : World), Chs B rb s R w e w' → T e w' := fun e w' h => by rw [← hT]; exact h
  have HTr := hide hTr
  have HC := hide hc
  rw [← hT] at HC
  clear hTr hT hc h hown hrow
  go_enter Tryf.func9, Tryf.ntmps9
  go_wp2_with fail
  refine (unhide HC).mono ?_
  rintro e w1 (⟨cs, v, xs, h1, rfl, h2, h3, h4, h5, h6⟩ | ⟨h1, x, rfl, h2, h3⟩)
  · have H := hide (And.intro h1 (And.intro h2 (And.intro h3 (And.intro h4 (And.intro h5 h6)))))
    clear h1 h2 h3 h4 h5 h6
    go_wp2_with fail
    obtain ⟨h1, h2, h3, h4, h5, h6⟩ := unhide H
    exact unhide HTr _ _ (.inl ⟨cs, v, xs, h1, rfl, h2, h3, h4, h5, h6⟩)
  · have H := hide (And.intro h1 (And.intro h2 h3))
    clear h1 h2 h3
    go_wp2_with fail
    obtain ⟨h1, h2, h3⟩ := unhide H
    exact unhide HTr _ _ (.inr ⟨h1, x, rfl, h2, h3⟩)

theorem zzBytes_any (a b : ByteArray) (w : World) :
    Calls Tryf.prog 13 #[.string a, .string b] w fun e w' => (∃ r : Bool, e = .returned (.bool r)) ∧ w = w' := by
  go_enter Tryf.func13, Tryf.ntmps13
  go_wp2
  all_goals go_ret
  all_goals exact ⟨⟨_, rfl⟩, rfl⟩
end Go.Proofs.Qxb6613049aFmt
