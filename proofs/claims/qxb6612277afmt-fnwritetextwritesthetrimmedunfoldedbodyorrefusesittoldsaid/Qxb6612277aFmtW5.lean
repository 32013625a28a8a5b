/-
  Walks: a fresh fieldBody: grown, grow, room, addText.
-/
import Derived.Test.Qxb6612277aFmtW4
import Derived.Test.Qxb6612277aFmtW2
import Derived.Laws.CopyOwn
import Derived.BigQuiet
import Derived.Deep.QuietTactic
import Derived.Deep.RegionWith
import Derived.Deep.RegionHeld3
import Derived.Lib.AppendStr
namespace Go.Proofs.Qxb6612277aFmt
open Go.RowKit

theorem info60 : (Tryf.prog.info? 60).map (fun i => (i.zero, i.size, i.bytes)) = some (some (.int .u8 0), 1, 1) := by kernel_rfl
theorem size5 : (Tryf.prog.info? 5).map (·.size) = some 1 := by kernel_rfl
theorem size60 : (Tryf.prog.info? 60).map (·.size) = some 1 := by kernel_rfl

/-- n zero cells. -/
def zs (n : Nat) : Array Value := madeCells #[.int .u8 0] n
theorem zs_size (n : Nat) : (zs n).size = n := size_madeCells _ _

theorem mk32 (n : Nat) (hn : n ≤ 1048576) (w : World) : (Instr.makeSlice 32 (.int .i64 0) (.int .i64 (n : Int))).run Tryf.prog w = .ok (.slice (some ⟨w.heap.size, 0, none⟩) 0 n) (w.alloc (.cells (zs n) 5)) := by
  obtain ⟨i0, hi, hz0, hz1, hz2⟩ := info_parts info5
  have h := run_make (P := Tryf.prog) w 32 5 i0 (.int .u8 0) Tryf.underlying32 hi hz0 .i64 .i64 0 n (by omega) (by omega) (by rw [hz2]; omega) (by omega)
  rw [hz1] at h
  have e1 : (Value.int .u8 0).cells = #[.int .u8 0] := rfl
  rw [e1] at h
  simpa [zs] using h
theorem mk36 (n : Nat) (hn : n ≤ 1048576) (w : World) : (Instr.makeSlice 36 (.int .i64 0) (.int .i64 (n : Int))).run Tryf.prog w = .ok (.slice (some ⟨w.heap.size, 0, none⟩) 0 n) (w.alloc (.cells (zs n) 60)) := by
  obtain ⟨i0, hi, hz0, hz1, hz2⟩ := info_parts info60
  have h := run_make (P := Tryf.prog) w 36 60 i0 (.int .u8 0) Tryf.underlying36 hi hz0 .i64 .i64 0 n (by omega) (by omega) (by rw [hz2]; omega) (by omega)
  rw [hz1] at h
  have e1 : (Value.int .u8 0).cells = #[.int .u8 0] := rfl
  rw [e1] at h
  simpa [zs] using h

set_option maxHeartbeats 400000 in
theorem grownB (n : Nat) (w : World) (h0 : 0 < n) (hn : n ≤ 1048576) :
    Calls Tryf.prog 62 #[.slice none 0 0, .int .i64 (n : Int)] w fun e w' => e = .returned (.slice (some ⟨w.heap.size, 0, none⟩) 0 n) ∧ w' = w.alloc (.cells (zs n) 5) := by
  have hmk := mk32 n hn
  go_enter Tryf.func62, Tryf.ntmps62
  go_wp2_with (refine wpList_copy_nothing rfl _ _ 32 32 rfl 5 Tryf.underlying32 size5 _ _ _ _ _ _ rfl rfl (by simp) ?_)
  go_ret
  exact ⟨rfl, rfl⟩

set_option maxHeartbeats 400000 in
theorem grownR (n : Nat) (w : World) (h0 : 0 < n) (hn : n ≤ 1048576) :
    Calls Tryf.prog 63 #[.slice none 0 0, .int .i64 (n : Int)] w fun e w' => e = .returned (.slice (some ⟨w.heap.size, 0, none⟩) 0 n) ∧ w' = w.alloc (.cells (zs n) 60) := by
  have hmk := mk36 n hn
  go_enter Tryf.func63, Tryf.ntmps63
  go_wp2_with (refine wpList_copy_nothing rfl _ _ 36 36 rfl 60 Tryf.underlying36 size60 _ _ _ _ _ _ rfl rfl (by simp) ?_)
  go_ret
  exact ⟨rfl, rfl⟩

/-- What a fresh fieldBody becomes: room for n bytes and n ranks. -/
def Grown2 (fb n : Nat) (w w' : World) : Prop :=
  ∃ g1 g2, g1 ≠ g2 ∧ w.heap.size ≤ g1 ∧ w.heap.size ≤ g2 ∧ w'.heap[g1]? = some (.cells (zs n) 5 (0, 0)) ∧ w'.heap[g2]? = some (.cells (zs n) 60 (0, 0)) ∧
    w'.heap[fb]? = some (.cells #[.slice (some ⟨g1, 0, none⟩) 0 n, .slice (some ⟨g2, 0, none⟩) 0 n] 59 (0, 0)) ∧ Below fb w w'

theorem grow_world (fb n : Nat) (w : World) (hb : w.heap[fb]? = some (.cells #[.slice none 0 0, .slice none 0 0] 59 (0, 0))) :
    Grown2 fb n w ((((w.setCell ⟨fb, 0, none⟩ (.slice (some ⟨w.heap.size, 0, none⟩) 0 n)).setCell ⟨fb, 1, none⟩ (.slice (some ⟨w.heap.size + 1, 0, none⟩) 0 n)).alloc (.cells (zs n) 5)).alloc (.cells (zs n) 60)).drew := by
  have hlt : fb < w.heap.size := by
    rcases Nat.lt_or_ge fb w.heap.size with h | h
    · exact h
    · rw [Array.getElem?_eq_none h] at hb; cases hb
  have hs : ((w.setCell ⟨fb, 0, none⟩ (.slice (some ⟨w.heap.size, 0, none⟩) 0 n)).setCell ⟨fb, 1, none⟩ (.slice (some ⟨w.heap.size + 1, 0, none⟩) 0 n)).heap.size = w.heap.size := by simp [World.setCell]
  have hf : ((w.setCell ⟨fb, 0, none⟩ (.slice (some ⟨w.heap.size, 0, none⟩) 0 n)).setCell ⟨fb, 1, none⟩ (.slice (some ⟨w.heap.size + 1, 0, none⟩) 0 n)).heap[fb]? = some (.cells #[.slice (some ⟨w.heap.size, 0, none⟩) 0 n, .slice (some ⟨w.heap.size + 1, 0, none⟩) 0 n] 59 (0, 0)) := by
    simp [World.setCell, Array.getElem?_modify, hb]
  have hbl : Below fb w ((w.setCell ⟨fb, 0, none⟩ (.slice (some ⟨w.heap.size, 0, none⟩) 0 n)).setCell ⟨fb, 1, none⟩ (.slice (some ⟨w.heap.size + 1, 0, none⟩) 0 n)) :=
    ((Below.refl fb w).setCell (p := ⟨fb, 0, none⟩) (Nat.le_refl _) _).setCell (p := ⟨fb, 1, none⟩) (Nat.le_refl _) _
  generalize ((w.setCell ⟨fb, 0, none⟩ (.slice (some ⟨w.heap.size, 0, none⟩) 0 n)).setCell ⟨fb, 1, none⟩ (.slice (some ⟨w.heap.size + 1, 0, none⟩) 0 n)) = W at *
  refine ⟨w.heap.size, w.heap.size + 1, by omega, Nat.le_refl _, by omega, ?_, ?_, ?_, ((hbl.alloc (by omega) _).alloc (by simp; omega) _).drew⟩
  · show ((W.alloc _).alloc _).heap[w.heap.size]? = _
    rw [Below.heap_alloc _ _ _ (by simp; omega), ← hs]
    exact heap_alloc_new W _
  · show ((W.alloc _).alloc _).heap[w.heap.size + 1]? = _
    have := heap_alloc_new (W.alloc (.cells (zs n) 5)) (.cells (zs n) 60)
    rw [World.size_alloc, hs] at this
    exact this
  · show ((W.alloc _).alloc _).heap[fb]? = _
    rw [Below.heap_alloc _ _ _ (by simp; omega), Below.heap_alloc _ _ _ (by omega)]
    exact hf

set_option maxRecDepth 100000 in
set_option maxHeartbeats 1000000 in
theorem grow_any (fb n : Nat) (w : World) (h0 : 0 < n) (hn : n ≤ 1048576) (hb : w.heap[fb]? = some (.cells #[.slice none 0 0, .slice none 0 0] 59 (0, 0))) :
    Calls Tryf.prog 51 #[.pointer (some ⟨fb, 0, none⟩), .int .i64 (n : Int)] w fun e w' => e = .returned (.tuple #[]) ∧ Grown2 fb n w w' := by
  have c0 : w.cell? ⟨fb, 0, none⟩ = some (.slice none 0 0) := by simp [World.cell?, hb]
  have c1 : w.cell? ⟨fb, 1, none⟩ = some (.slice none 0 0) := by simp [World.cell?, hb]
  have f0 : w.frozen? ⟨fb, 0, none⟩ = false := by simp [World.frozen?, hb]
  have f1 : w.frozen? ⟨fb, 1, none⟩ = false := by simp [World.frozen?, hb]
  have hlt : fb < w.heap.size := World.block_lt_of_cell? w _ c0
  have HB := hide hb
  clear hb
  go_enter Tryf.func51, Tryf.ntmps51
  go_wp2
  go_region_with (first | (go_at_call 62; refine (grownB n _ h0 hn).mono ?_; rintro e w' ⟨rfl, rfl⟩) | (go_at_call 63; refine (grownR n _ h0 hn).mono ?_; rintro e w' ⟨rfl, rfl⟩))
  all_goals go_wp2
  all_goals go_end0
  all_goals exact ⟨rfl, grow_world fb n w (unhide HB)⟩

theorem Grown2.drewN {fb n q : Nat} {w w' : World} (h : Grown2 fb n (w.drewN q) w') : Grown2 fb n w w' := by
  obtain ⟨g1, g2, h1, h2, h3, h4, h5, h6, h7⟩ := h
  exact ⟨g1, g2, h1, h2, h3, h4, h5, h6, (below_drewN (Below.refl fb w) q).trans h7⟩

set_option maxRecDepth 100000 in
set_option maxHeartbeats 1000000 in
theorem room_any (fb n : Nat) (w : World) (h0 : 0 < n) (hn : n ≤ 1048576) (hb : w.heap[fb]? = some (.cells #[.slice none 0 0, .slice none 0 0] 59 (0, 0))) :
    Calls Tryf.prog 33 #[.pointer (some ⟨fb, 0, none⟩), .int .i64 (n : Int)] w fun e w' => e = .returned (.tuple #[]) ∧ Grown2 fb n w w' := by
  have c0 : w.cell? ⟨fb, 0, none⟩ = some (.slice none 0 0) := by simp [World.cell?, hb]
  have HB := hide hb
  clear hb
  go_enter Tryf.func33, Tryf.ntmps33
  go_wp2
  go_quiet (fail)
  go_wp2_with fail
  refine (grow_any fb n (w.drewN nq) h0 hn (by exact unhide HB)).mono ?_
  rintro e w1 ⟨rfl, hg⟩
  have HG := hide hg.drewN
  clear hg
  go_wp2_with fail
  go_end0
  exact ⟨rfl, unhide HG⟩

set_option maxRecDepth 100000 in
set_option maxHeartbeats 1000000 in
theorem room_none (fb : Nat) (w : World) (hb : w.heap[fb]? = some (.cells #[.slice none 0 0, .slice none 0 0] 59 (0, 0))) :
    Calls Tryf.prog 33 #[.pointer (some ⟨fb, 0, none⟩), .int .i64 0] w fun e w' => e = .returned (.tuple #[]) ∧ ∃ q, w' = w.drewN q := by
  have c0 : w.cell? ⟨fb, 0, none⟩ = some (.slice none 0 0) := by simp [World.cell?, hb]
  have HB := hide hb
  clear hb
  go_enter Tryf.func33, Tryf.ntmps33
  go_wp2
  go_quiet (fail)
  go_wp2_with fail
  go_end0
  exact ⟨rfl, nq, rfl⟩
end Go.Proofs.Qxb6612277aFmt
