import Derived.Test.Qxb6614301aFmtW8
import Derived.Lib.FrozenHead2
namespace Go.Proofs.Qxb6614301aFmt
open Go.RowKit

/-- A builder at block b, made when the heap had B blocks, that holds l. -/
def BL (B b : Nat) (l : List UInt8) (w : World) : Prop := Lib.IsBuilderF 62 5 B b (Lib.byteCells l) w
theorem BL.keep {B b : Nat} {l : List UInt8} {w w' : World} (h : BL B b l w) (hk : ∀ k, B ≤ k → k < w.heap.size → w'.heap[k]? = w.heap[k]?) : BL B b l w' := by
  have h1 : ∀ p, Lib.BuilderAtF 62 5 B b p (Lib.byteCells l) w → Lib.BuilderAtF 62 5 B b p (Lib.byteCells l) w' := by
    rintro p ⟨hB, v, hb, ⟨ho1, ho2⟩, hne⟩
    refine ⟨hB, v, (hk b hB (Array.getElem?_eq_some_iff.1 hb).1).trans hb, ⟨ho1, ?_⟩, hne⟩
    rcases ho2 with hn | ⟨g, cap, cur, fz, hv, hbg, hg, rest⟩
    · exact .inl hn
    · exact .inr ⟨g, cap, cur, fz, hv, hbg, (hk g hbg (Array.getElem?_eq_some_iff.1 hg).1).trans hg, rest⟩
  exact h.elim (fun x => .inl (h1 _ x)) (fun x => .inr (h1 _ x))
theorem BL.tch {B b : Nat} {l : List UInt8} {S : List Nat} {w w' : World} (h : BL B b l w) (ht : Tch S w w') (hS : ∀ k ∈ S, k < B) : BL B b l w' :=
  h.keep fun k h1 h2 => ht.block k h2 (fun hm => by have := hS k hm; omega)
theorem BL.lt {B b : Nat} {l : List UInt8} {w : World} (h : BL B b l w) : B ≤ b ∧ b < w.heap.size := h.elim (fun x => ⟨x.1, x.lt⟩) (fun x => ⟨x.1, x.lt⟩)
/-- A builder that has just been laid. -/
theorem BL.fresh {B : Nat} {w : World} (hB : B = w.heap.size) : BL B B [] (w.alloc (.cells #[.pointer none, .slice none 0 0] 62 (0, 0))) := by
  subst hB
  exact .inl ⟨Nat.le_refl _, .slice none 0 0, (by show (w.heap.push _)[w.heap.size]? = _; simp), World.ownsRowF_nil _ _ _ _, by simp [Value.ownBlock]⟩

theorem writeByte_any (B b : Nat) (l : List UInt8) (c : UInt8) (w : World) (h : BL B b l w) (hl : l.length ≤ 4194304) (hBw : B ≤ w.heap.size) :
    Calls Tryf.prog 30 #[.pointer (some ⟨b, 0, none⟩), .int .u8 (c.toNat : Int)] w fun e w' => e = .returned .nilIface ∧ BL B b (l ++ [c]) w' ∧ Below B w w' := by
  refine (Tryf.Builder_WriteByte_k B b (Lib.byteCells l) (c.toNat : Int) w h (by rw [Lib.byteCells_length]; omega) hBw).mono ?_
  rintro e w' ⟨he, h1, h2, _⟩
  refine ⟨he, .inr ?_, h2⟩
  simpa [Lib.byteCells] using h1
theorem string_any (B b : Nat) (l : List UInt8) (w : World) (h : BL B b l w) (hBw : B ≤ w.heap.size) :
    Calls Tryf.prog 28 #[.pointer (some ⟨b, 0, none⟩)] w fun e w' => e = .returned (.string ⟨l.toArray⟩) ∧ BL B b l w' ∧ Below B w w' := by
  refine (Tryf.Builder_String_any_k B b l w h hBw).mono ?_
  rintro e w' ⟨he, h1, h2, _⟩
  exact ⟨he, h1, h2⟩
theorem len_any (B b : Nat) (l : List UInt8) (w : World) (h : BL B b l w) :
    Calls Tryf.prog 25 #[.pointer (some ⟨b, 0, none⟩)] w fun e w' => e = .returned (.int .i64 l.length) ∧ w' = w := by
  refine (Tryf.Builder_Len_f B b (Lib.byteCells l) w h).mono ?_
  rintro e w' ⟨he, h1⟩
  rw [Lib.byteCells_length] at he
  exact ⟨he, h1⟩

theorem chunk_below {bb o : Nat} {s : ByteArray} {p n B : Nat} {w w' : World} (h : Chunk bb o s p n w) (hb : Below B w w') (hB : bb < B) : Chunk bb o s p n w' := fun j hj => by
  rw [← h j hj]
  exact World.cell?_of_block (hb.block bb hB)

set_option maxHeartbeats 2000000 in
set_option maxRecDepth 100000 in
theorem write_any (B b bb o c p n : Nat) (s : ByteArray) (l : List UInt8) (w : World) (h : BL B b l w) (hl : l.length + n ≤ 4194304) (hBw : B ≤ w.heap.size) (hbb : bb < B) (hc : Chunk bb o s p n w) :
    Calls Tryf.prog 39 #[.pointer (some ⟨b, 0, none⟩), .slice (some ⟨bb, o, none⟩) n c] w fun e w' => e = .returned (.tuple #[.int .i64 n, .nilIface]) ∧ BL B b (l ++ seg s p n) w' ∧ Below B w w' := by
  obtain ⟨i0, hi, hz0, hz1, hz2⟩ := info_parts Tryf.Builder_Extra_167.infoByte
  go_enter Tryf.func39, Tryf.ntmps39
  go_wp2_with fail
  refine (Tryf.Builder_copyCheck_k B b (Lib.byteCells l) w h).mono ?_
  rintro e w1 ⟨rfl, h1, hb1, hk1⟩
  obtain ⟨hB, v, hbk, hown, hne⟩ := h1
  have c0 : w1.cell? ⟨b, 0, none⟩ = some (.pointer (some ⟨b, 0, none⟩)) := by rw [Lib.cell_of_heap hbk]; rfl
  have c1 : w1.cell? ⟨b, 1, none⟩ = some v := by rw [Lib.cell_of_heap hbk]; rfl
  have hch1 := chunk_below hc hb1 hbb
  go_wp2_with (at_builtin; refine wpList_append_ownF _ rfl _ _ 60 rfl B 5 i0 (.int .u8 0) 1 1 Tryf.underlying60 hi hz0 hz1 hz2 rfl (by decide) _ _ _ rfl hown ⟨bb, o, none⟩ n c (Lib.byteCells (seg s p n)) rfl ?c0 ?c1 ?c2 ?c3 ?c4 ?c5 ?_)
  case c0 => rw [Lib.byteCells_length, seg_len, Nat.mul_one]
  case c1 =>
    intro j u hj
    have hjn : j < n := by
      have := (List.getElem?_eq_some_iff.1 hj).1
      rwa [Lib.byteCells_length, seg_len] at this
    have : u = bcell s (p + j) := by
      simp [Lib.byteCells, seg_get s p n j hjn] at hj
      rw [← hj]
      rfl
    rw [this, ← hch1 j hjn]
    congr 1
    unfold Addr.add
    split <;> simp_all
  case c2 =>
    intro u hu
    simp [Lib.byteCells] at hu
    obtain ⟨a, _, rfl⟩ := hu
    rfl
  case c3 => unfold maxLen; rw [Lib.byteCells_length]; omega
  case c4 => rw [Lib.byteCells_length]; omega
  case c5 => have := hb1.size; omega
  intro v' w2 hown' hgrow _
  have hlt : b < w1.heap.size := (Array.getElem?_eq_some_iff.1 hbk).1
  have hb2 : w2.heap[b]? = some (.cells #[.pointer (some ⟨b, 0, none⟩), v] 62 (0, 0)) := by
    rw [hgrow.block b hlt (fun e => hne e.symm)]
    exact hbk
  have d0 : w2.cell? ⟨b, 0, none⟩ = some (.pointer (some ⟨b, 0, none⟩)) := by rw [Lib.cell_of_heap hb2]; rfl
  have d1 : w2.cell? ⟨b, 1, none⟩ = some v := by rw [Lib.cell_of_heap hb2]; rfl
  have f1 : w2.frozen? ⟨b, 1, none⟩ = false := Lib.frozen_of_heap hb2 1
  obtain ⟨ao, n', cap, rfl⟩ : ∃ ao n' cap, v' = .slice ao n' cap := by
    rcases hown'.2 with ⟨hv, _⟩ | ⟨g, cap, cur, fz, hv, _⟩
    · exact ⟨_, _, _, hv⟩
    · exact ⟨_, _, _, hv⟩
  go_wp2_with fail
  go_ret2
  refine ⟨rfl, .inr ?_, ?_⟩
  · have hap : Lib.byteCells (l ++ seg s p n) = Lib.byteCells l ++ Lib.byteCells (seg s p n) := by simp [Lib.byteCells]
    rw [hap]
    exact Lib.BuilderAtF.put (T := 62) (e := 5) hB hb2 (bs' := Lib.byteCells l ++ Lib.byteCells (seg s p n)) (by simpa [Lib.byteCells_length, seg_len] using hown') (by decide)
  · exact (hb1.grown hgrow (by have := hb1.size; omega) (fun k hk => (hown.lt k hk).1)).setCell (p := ⟨b, 1, none⟩) hB _
end Go.Proofs.Qxb6614301aFmt
