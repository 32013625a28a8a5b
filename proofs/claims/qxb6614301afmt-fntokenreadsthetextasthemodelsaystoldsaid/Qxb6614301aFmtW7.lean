import Derived.Test.Qxb6614301aFmtW6
namespace Go.Proofs.Qxb6614301aFmt
open Go.RowKit

theorem w64_add (a b : Int) : wrap64 (wrap64 a + b) = wrap64 (a + b) := by unfold wrap64; omega
theorem w64_id (a : Int) : wrap64 (wrap64 a) = wrap64 a := by unfold wrap64; omega

/-- The parser: its line is L and n line breaks. -/
def PB (pb rb : Nat) (name : ByteArray) (L : Int) (n : Nat) (w : World) : Prop :=
  w.heap[pb]? = some (.cells #[.string name, .pointer (some ⟨rb, 0, none⟩), .int .i64 (wrap64 (L + (n : Int)))] 43 (0, 0))
theorem PB.cells {pb rb : Nat} {name : ByteArray} {L : Int} {n : Nat} {w : World} (h : PB pb rb name L n w) : w.cell? ⟨pb, 0, none⟩ = some (.string name) ∧ w.cell? ⟨pb, 1, none⟩ = some (.pointer (some ⟨rb, 0, none⟩)) ∧ w.cell? ⟨pb, 2, none⟩ = some (.int .i64 (wrap64 (L + (n : Int)))) ∧ w.frozen? ⟨pb, 2, none⟩ = false := by
  unfold PB at h
  exact ⟨by simp [World.cell?, h], by simp [World.cell?, h], by simp [World.cell?, h], by simp [World.frozen?, h]⟩
theorem PB.tch {pb rb : Nat} {name : ByteArray} {L : Int} {n : Nat} {S : List Nat} {w w' : World} (h : PB pb rb name L n w) (ht : Tch S w w') (hn : pb ∉ S) : PB pb rb name L n w' := ht.at h hn
theorem PB.inc {pb rb : Nat} {name : ByteArray} {L : Int} {n k : Nat} {w : World} (h : PB pb rb name L n w) : PB pb rb name L (n + k) (w.setCell ⟨pb, 2, none⟩ (.int .i64 (wrap64 (wrap64 (L + (n : Int)) + (k : Int))))) := by
  unfold PB at h ⊢
  rw [w64_add, show L + (n : Int) + (k : Int) = L + ((n + k : Nat) : Int) by omega]
  exact set_block h _
theorem pb_ne {ea : Addr} {pb rb sb bb : Nat} {name s : ByteArray} {L : Int} {n p : Nat} {w : World} (h : PB pb rb name L n w) (hr : RD ea rb sb bb s p w) : pb ∉ [rb, sb, bb] := by
  obtain ⟨r, W, e, lb, ⟨i, lrs, pr, bs, h1, h2, h3, _⟩, _⟩ := hr
  unfold PB at h
  intro hm
  simp only [List.mem_cons, List.not_mem_nil, or_false] at hm
  rcases hm with rfl | rfl | rfl
  · rw [h] at h1; cases h1
  · rw [h] at h2; cases h2
  · rw [h] at h3; cases h3
theorem RD.keep {ea : Addr} {rb sb bb : Nat} {s : ByteArray} {p : Nat} {w w' : World} (h : RD ea rb sb bb s p w) (hk : ∀ k, k = rb ∨ k = sb ∨ k = bb → w'.heap[k]? = w.heap[k]?) : RD ea rb sb bb s p w' := by
  obtain ⟨r, W, e, lb, ⟨i, lrs, pr, bs, h1, h2, h3, h4⟩, he⟩ := h
  exact ⟨r, W, e, lb, ⟨i, lrs, pr, bs, (hk rb (.inl rfl)).trans h1, (hk sb (.inr (.inl rfl))).trans h2, (hk bb (.inr (.inr rfl))).trans h3, h4⟩, he⟩
theorem RD.setP {ea : Addr} {pb rb sb bb o : Nat} {s : ByteArray} {p : Nat} {w : World} (h : RD ea rb sb bb s p w) (hn : pb ∉ [rb, sb, bb]) (v : Value) : RD ea rb sb bb s p (w.setCell ⟨pb, o, none⟩ v) :=
  h.keep fun k hk => set_other (fun e => hn (by subst e; simp; exact hk)) v

set_option maxRecDepth 100000 in
theorem skipComment_any (ea fa : Addr) (pb rb sb bb : Nat) (name s : ByteArray) (L : Int) (n p : Nat) (w : World) (h : RD ea rb sb bb s p w) (hp : PB pb rb name L n w) (hs : s.size ≤ 2097152) (hg : Gl ea fa [rb, sb, bb] w) :
    Calls Tryf.prog 23 #[.pointer (some ⟨pb, 0, none⟩)] w fun e w' => e = .returned .nilIface ∧ Tch [pb, rb, sb, bb] w w' ∧
      ((∃ j, p ≤ j ∧ j < s.size ∧ byt s j = 10 ∧ NoD s 10 p j ∧ RD ea rb sb bb s (j + 1) w' ∧ PB pb rb name L (n + 1) w') ∨ (NoD s 10 p s.size ∧ RD ea rb sb bb s s.size w' ∧ PB pb rb name L n w')) := by
  obtain ⟨c0, c1, c2, f2⟩ := hp.cells
  have hne := pb_ne hp h
  have HR := hide h
  have HP := hide hp
  have HG := hide hg
  clear h hp hg
  go_enter Tryf.func23, Tryf.ntmps23
  go_wp2_with fail
  refine (skipLine_any ea fa rb sb bb s p w (unhide HR) hs (unhide HG)).mono ?_
  rintro e w1 (⟨x, j, rfl, k1, k2, k3, k4, k5, ht⟩ | ⟨x, rfl, k4, k5, ht⟩)
  · have hp1 := (unhide HP).tch ht hne
    obtain ⟨d0, d1, d2, g2⟩ := hp1.cells
    have HP1 := hide hp1
    have HT := hide ht
    have HK := hide (And.intro k3 (And.intro k4 k5))
    clear ht hp1 k3 k4 k5
    go_wp2_with fail
    go_ret
    obtain ⟨q3, q4, q5⟩ := unhide HK
    refine ⟨rfl, ((unhide HT).mono (by intro k hk; simp at hk ⊢; exact .inr hk)).setCell (by simp) _, .inl ⟨j, k1, k2, q3, q4, q5.setP hne _, ?_⟩⟩
    exact (unhide HP1).inc (k := 1)
  · have hp1 := (unhide HP).tch ht hne
    have HP1 := hide hp1
    have HT := hide ht
    have HK := hide (And.intro k4 k5)
    clear ht hp1 k4 k5
    go_wp2_with fail
    go_ret
    obtain ⟨q4, q5⟩ := unhide HK
    exact ⟨rfl, (unhide HT).mono (by intro k hk; simp at hk ⊢; exact .inr hk), .inr ⟨q4, q5, unhide HP1⟩⟩
end Go.Proofs.Qxb6614301aFmt
