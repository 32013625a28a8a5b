/-
  (strings.Builder).Write with the frame that reaches above the builder; unfolding.
-/
import Derived.Test.Qxb6612277aFmtW10
import Derived.Lib.FrozenHead2
namespace Go.Proofs.Qxb6612277aFmt
open Go.RowKit

theorem byteCells_app (a b : List UInt8) : Lib.byteCells a ++ Lib.byteCells b = Lib.byteCells (a ++ b) := by simp [Lib.byteCells]
theorem byteCells_one (l : List UInt8) : ∀ u ∈ Lib.byteCells l, u.oneCell' = true := by
  intro u hu
  obtain ⟨x, _, rfl⟩ := List.mem_map.1 hu
  rfl
theorem byteCells_at {w : World} {b o : Nat} {l : List UInt8} (h : BA w (some ⟨b, o, none⟩) l) : ∀ (j : Nat) u, (Lib.byteCells l)[j]? = some u → w.cell? ((⟨b, o, none⟩ : Addr).add j) = some u := by
  intro j u hj
  have hlt : j < l.length := by
    have := (List.getElem?_eq_some_iff.1 hj).1
    rwa [byteCells_len] at this
  rw [byteCells_get l j hlt] at hj
  cases hj
  rw [Go.WideShapes.add_plain]
  exact h.cell j hlt

set_option maxRecDepth 100000 in
set_option maxHeartbeats 2000000 in
theorem bwrite (B b gb go m c : Nat) (acc l : List UInt8) (w : World) (h : Lib.IsBuilderF 87 5 B b (Lib.byteCells acc) w) (hl : l.length = m) (hc : BA w (some ⟨gb, go, none⟩) l) (hgb : gb < B) (hlen : acc.length + m ≤ 140737488355328) (hBw : B ≤ w.heap.size) :
    Calls Tryf.prog 47 #[.pointer (some ⟨b, 0, none⟩), .slice (some ⟨gb, go, none⟩) m c] w fun e w' => e = .returned (.tuple #[.int .i64 m, .nilIface]) ∧
      (Lib.BuilderAtF 87 5 B b (.pointer (some ⟨b, 0, none⟩)) (Lib.byteCells (acc ++ l)) w' ∧ Below B w w' ∧ Lib.OthersKept 5 (some b) w w') := by
  obtain ⟨i0, hi, hz0, hz1, hz2⟩ := info_parts info5
  have HC := hide hc
  clear hc
  go_enter Tryf.func47, Tryf.ntmps47
  go_wp2_with (go_at_call 60; refine (Tryf.Builder_copyCheck_k2 B b (Lib.byteCells acc) _ h).mono ?_)
  rintro e w1 ⟨rfl, h1, hb1, hk1⟩
  obtain ⟨hB, v, hbk, hown, hne⟩ := h1
  have c0 : w1.cell? ⟨b, 0, none⟩ = some (.pointer (some ⟨b, 0, none⟩)) := by rw [Lib.cell_of_heap hbk]; rfl
  have c1 : w1.cell? ⟨b, 1, none⟩ = some v := by rw [Lib.cell_of_heap hbk]; rfl
  have hBA1 : BA w1 (some ⟨gb, go, none⟩) l := BA.mk fun i hi => (hb1.cell (p := ⟨gb, go + i, none⟩) hgb).trans ((unhide HC).cell i hi)
  have HB1 := hide hBA1
  have HBK := hide hbk
  clear hBA1 hbk
  go_wp2_with (at_builtin; refine wpList_append_ownF _ rfl _ _ 32 rfl B 5 i0 (.int .u8 0) 1 1 Tryf.underlying32 hi hz0 hz1 hz2 rfl (by decide) _ _ _ rfl hown ⟨gb, go, none⟩ m c (Lib.byteCells l) rfl (by rw [byteCells_len]; omega) (byteCells_at (unhide HB1)) (byteCells_one l) ?c3 ?c4 ?c5 ?_)
  case c3 => rw [byteCells_len]; unfold maxLen; omega
  case c4 => rw [byteCells_len]; omega
  case c5 => have := hb1.size; omega
  intro v' w2 hown' hgrow _
  have hbk := unhide HBK
  have hlt : b < w1.heap.size := by
    rcases Nat.lt_or_ge b w1.heap.size with h' | h'
    · exact h'
    · simp [Array.getElem?_eq_none h'] at hbk
  have hb2 : w2.heap[b]? = some (.cells #[.pointer (some ⟨b, 0, none⟩), v] 87 (0, 0)) := by
    rw [hgrow.block b hlt (fun e => hne e.symm)]
    exact hbk
  have d0 : w2.cell? ⟨b, 0, none⟩ = some (.pointer (some ⟨b, 0, none⟩)) := by rw [Lib.cell_of_heap hb2]; rfl
  have d1 : w2.cell? ⟨b, 1, none⟩ = some v := by rw [Lib.cell_of_heap hb2]; rfl
  have f1 : w2.frozen? ⟨b, 1, none⟩ = false := Lib.frozen_of_heap hb2 1
  obtain ⟨ao, n', cap, rfl⟩ : ∃ ao n' cap, v' = .slice ao n' cap := by
    rcases hown'.2 with ⟨hv, _⟩ | ⟨g, cap, cur, fz, hv, _⟩
    · exact ⟨_, _, _, hv⟩
    · exact ⟨_, _, _, hv⟩
  have HO := hide hown'
  have HG := hide (show w1.grownBy w2 v.ownBlock from hgrow)
  have HB2 := hide hb2
  clear hown' hgrow hb2 hbk
  go_wp2
  go_ret2
  refine ⟨rfl, ?_, ?_, (hk1.grown (unhide HG) (Lib.ownsRowF_kind hown)).setCell ⟨b, 1, none⟩ rfl _⟩
  · refine Lib.BuilderAtF.put (T := 87) (e := 5) hB (unhide HB2) (bs' := Lib.byteCells (acc ++ l)) ?_ (by decide)
    have h' := unhide HO
    rw [byteCells_app] at h'
    rw [byteCells_len, List.length_append, hl]
    rwa [byteCells_len] at h'
  · exact (hb1.grown (unhide HG) (by have := hb1.size; omega) (fun k hk => (hown.lt k hk).1)).setCell (p := ⟨b, 1, none⟩) hB _
end Go.Proofs.Qxb6612277aFmt
