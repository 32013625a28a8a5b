import Derived.Test.Qxb6614301aFmtW6
import Derived.Test.Qxb6614301aFmtRows
import Derived.Stop.LaidTwo
import Derived.ProofKit
namespace Go
theorem laidMet.drop2 {P : Program} {x y : String × DataW Unit} {r : List (String × DataW Unit)} {w : World} (h : laidMet P (x :: y :: r) w) : laidMet P (x :: r) w := by
  obtain ⟨ps, hv, hnd, hrows⟩ := h
  obtain ⟨n, d⟩ := x
  obtain ⟨n', d'⟩ := y
  obtain ⟨g, t, cs, fuel, p, q, h1, h2, h3, h4, ⟨g', t', cs', fuel', p', q', _, _, _, _, hq, rfl⟩, rfl⟩ := hv
  refine ⟨_, ⟨g, t, cs, fuel, p, q', h1, h2, h3, h4, hq, rfl⟩, List.Nodup.sublist ?_ hnd, fun b off hm => hrows b off ?_⟩
  · exact List.Sublist.append (List.Sublist.refl _) (List.sublist_append_right _ _)
  · rcases List.mem_append.1 hm with hm | hm
    · exact List.mem_append_left _ hm
    · exact List.mem_append_right _ (List.mem_append_right _ hm)
end Go
namespace Go.Proofs.Qxb6614301aFmt
open Go.RowKit

theorem gEof : Tryf.prog.globalNamed "io.EOF" = some 0 := by kernel_rfl
theorem gFull : Tryf.prog.globalNamed "bufio.ErrBufferFull" = some 1 := by kernel_rfl
theorem gEofType : (Tryf.prog.globals[0]?).map (·.type) = some 29 := by kernel_rfl
theorem gFullType : (Tryf.prog.globals[1]?).map (·.type) = some 29 := by kernel_rfl
theorem cells102 : Tryf.prog.cellsOf 102 = 1 := by kernel_rfl
theorem cells9 : Tryf.prog.cellsOf 9 = 1 := by kernel_rfl
/-- The name of a listed sentinel's type. -/
def nmOf : DataW Unit → String
  | .iface n _ => n
  | _ => "none"
theorem row100 (u : TypeId) (h : Tryf.prog.typeName? 3 u = some (nmOf Rows.laid_io_EOF)) : u = 100 :=
  typeName_ptr_named (nm := "errors.errorString") (by kernel_rfl) (by kernel_rfl) (by decide) u (h.trans (by kernel_rfl))

theorem gl_of_laid {W : World} (h : laidMet Tryf.prog Rows.fnTokenLinesShiftWithTheStartRow.laid W) : ∃ ea fa, Gl ea fa [] W := by
  have h1 := (h.tail).drop2.drop2
  obtain ⟨a0, a1, s0, s1, c0, c1, t0, t1, hv0, hv1, _, _, _, _, _, _, hne, hb0, hb1⟩ := laid_sentinels2 h1 gEof gEofType gFull gFullType Tryf.underlying29 row100 Tryf.underlying100 Tryf.underlying102 rfl rfl Tryf.underlying9 cells102 cells9
  refine ⟨a0, a1, ?_, ?_, Ne.symm hne, ⟨c0, t0, hb0⟩, ⟨c1, t1, hb1⟩, by simp⟩
  · simpa [eofV] using World.var?_cell gEof hv0 0
  · simpa [fullV] using World.var?_cell gFull hv1 0
theorem Gl.more {ea fa : Addr} {S : List Nat} {W w' : World} (h : Gl ea fa [] W) (ht : Tch [] W w') (hS : ∀ k ∈ S, W.heap.size ≤ k) : Gl ea fa S w' := by
  have h2 := h.tch ht
  refine ⟨h2.e, h2.f, h2.ne, h2.eb, h2.fb, fun k hk => ?_⟩
  have h3 := hS k hk
  have l0 := World.block_lt_of_cell? W ⟨0, 0, none⟩ h.e
  have l1 := World.block_lt_of_cell? W ⟨1, 0, none⟩ h.f
  obtain ⟨c, t, hc⟩ := h.eb
  obtain ⟨c', t', hc'⟩ := h.fb
  have l2 := (Array.getElem?_eq_some_iff.1 hc).1
  have l3 := (Array.getElem?_eq_some_iff.1 hc').1
  simp only at l0 l1
  omega
end Go.Proofs.Qxb6614301aFmt
