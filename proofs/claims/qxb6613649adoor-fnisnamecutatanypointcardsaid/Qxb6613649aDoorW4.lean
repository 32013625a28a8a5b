import Derived.Test.Qxb6613649aDoorW3
import Derived.Test.Qxb6613649aDoorShelf
namespace Go.Proofs.Qxb6613649aDoor
open Go.RowKit

theorem cmp_neg (m : Nat) : Lib.compareInt 0 ((m : Int) + 1) = -1 := by
  unfold Lib.compareInt
  rw [if_pos (by omega)]

theorem lineCmp_any (m : Nat) (w : World) :
    Calls Tryd.prog 33 #[.agg #[.int .i64 0, .int .i64 1], .int .i64 ((m : Int) + 1)] w fun e w' => e = .returned (.int .i64 (-1)) ∧ Below w.heap.size w w' := by
  go_enter Tryd.func33, Tryd.ntmps33
  go_wp2_with fail
  refine (Tryd.cmp_Compare_int _ _ _).mono ?_
  rw [cmp_neg]
  rintro e w' ⟨rfl, rfl⟩
  go_wp2_with fail
  go_ret
  exact ⟨rfl, (Below.refl _ _).alloc (Nat.le_refl _) _⟩

set_option maxRecDepth 100000 in
theorem search_any (p m : Nat) (w : World) (h : Pc p w) :
    Calls Tryd.prog 32 #[.slice (some ⟨p, 0, none⟩) 1 1, .int .i64 ((m : Int) + 1), .func (.func 33) #[] #[]] w fun e w' => e = .returned (.tuple #[.int .i64 1, .bool false]) ∧ Below w.heap.size w w' := by
  obtain ⟨c0, c1⟩ := h.cells
  have HP := hide h
  clear h
  go_enter Tryd.func32, Tryd.ntmps32
  go_wp2_with fail
  go_loopw [9, 10, 11] (fun i j _ wr => (∃ a : Nat, a ≤ 1 ∧ i = .int .i64 a) ∧ j = .int .i64 1 ∧ Below w.heap.size w wr) (fun i _ _ _ => 1 - (intOf i).toNat)
  case atStart => exact ⟨⟨0, by omega, rfl⟩, rfl, Below.refl _ _⟩
  case round =>
    obtain ⟨⟨a, ha, rfl⟩, rfl, hb⟩ := hrel
    have hp := (unhide HP).below hb (unhide HP).lt
    obtain ⟨d0, d1⟩ := hp.cells
    have HB := hide hb
    clear hb hp
    rcases (by omega : a = 0 ∨ a = 1) with rfl | rfl
    · go_wp2_with (go_at_call 33; refine (lineCmp_any m _).mono ?_; rintro e w1 ⟨rfl, hb1⟩; have HB1 := hide ((unhide HB).trans (hb1.mono (unhide HB).size)); clear hb1)
      go_roundw
      case rel => exact ⟨⟨1, by omega, by go_num⟩, rfl, unhide HB1⟩
      case measure => simp [intOf]
    · go_wp2_with fail
      refine bodyPost_ret (results_tmp2 rfl _ _ _) rfl ?_
      exact ⟨rfl, unhide HB⟩

set_option maxRecDepth 100000 in
theorem lineAt_any (p i : Nat) (s : ByteArray) (w : World) (h : Pc p w) (hi : i ≤ s.size) (hs : s.size ≤ 4194304) :
    Calls Tryd.prog 21 #[.agg #[.string s, .slice (some ⟨p, 0, none⟩) 1 1], .int .i64 (i : Int)] w fun e w' => (∃ n : Int, e = .returned (.int .i64 n)) ∧ Below w.heap.size w w' := by
  have hal : Below w.heap.size w (w.alloc (.cells #[.string s, .slice (some ⟨p, 0, none⟩) 1 1] 44)) := (Below.refl _ _).alloc (Nat.le_refl _) _
  have HP := hide (h.below hal h.lt)
  have HAl := hide hal
  have hlt := h.lt
  have hnb : (w.alloc (.cells #[.string s, .slice (some ⟨p, 0, none⟩) 1 1] 44)).heap[w.heap.size]? = some (.cells #[.string s, .slice (some ⟨p, 0, none⟩) 1 1] 44 (0, 0)) := heap_alloc_new _ _
  have HN := hide hnb
  clear h hal hnb
  go_enter Tryd.func21, Tryd.ntmps21
  go_wp2_with fail
  refine (search_any p i _ (by exact unhide HP)).mono ?_
  rintro e w1 ⟨rfl, hb1⟩
  have HB1 := hide hb1
  have hp1 := (unhide HP).below hb1 (unhide HP).lt
  obtain ⟨c0, c1⟩ := hp1.cells
  have hn1 := (hb1.block w.heap.size (by simp)).trans (unhide HN)
  obtain ⟨d0, d1⟩ : w1.cell? ⟨w.heap.size, 0, none⟩ = some (.string s) ∧ w1.cell? ⟨w.heap.size, 1, none⟩ = some (.slice (some ⟨p, 0, none⟩) 1 1) := ⟨by simp [World.cell?, hn1], by simp [World.cell?, hn1]⟩
  have hlt1 : w.heap.size < w1.heap.size := by have := hb1.size; simp at this; omega
  have hne : w.heap.size ≠ w1.heap.size := by omega
  clear hb1 hp1 hn1
  go_wp2_with fail
  go_quiet ((go_at_call 35; refine Calls.quiet_of_same (Tryd.strings_Count_one _ _ _)))
  go_wp2_with fail
  go_ret
  refine ⟨⟨_, rfl⟩, below_drewN (Below.alloc ?_ (by omega) _) nq⟩
  exact (unhide HAl).trans ((unhide HB1).mono (by simp))
end Go.Proofs.Qxb6613649aDoor
