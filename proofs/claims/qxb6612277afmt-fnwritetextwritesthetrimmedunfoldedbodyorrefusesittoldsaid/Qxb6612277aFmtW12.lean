/-
  Walks: unfolding.
-/
import Derived.Test.Qxb6612277aFmtW11
namespace Go.Proofs.Qxb6612277aFmt
open Go.RowKit

theorem BA_setCell {w : World} {p : Option Addr} {l : List UInt8} (h : BA w p l) {a : Addr} {q : Option Addr} {n c : Nat} (ha : w.cell? a = some (.slice q n c)) (u : Value) : BA (w.setCell a u) p l := by
  intro i hi
  obtain ⟨b, o, e, hc⟩ := h i hi
  refine ⟨b, o, e, ?_⟩
  by_cases hne : a = ⟨b, o + i, none⟩
  · rw [hne] at ha
    rw [ha] at hc
    cases hc
  · exact (World.cell?_setCell_other _ _ _ _ hne).trans hc

/-- What unfolding hands back for the body t. -/
def Unfolds (t : List UInt8) (w : World) (e : Ending) (w' : World) : Prop :=
  ∃ q cap Bb, e = .returned (.tuple #[.slice q t.length cap, .func (.func 58) #[] #[.pointer (some ⟨Bb, 0, none⟩)]]) ∧ t.length ≤ cap ∧ (q = none → cap = 0) ∧ BA w' q t ∧ w'.cell? ⟨Bb, 0, none⟩ = some (.slice q t.length cap) ∧ Below w.heap.size w w'

set_option maxRecDepth 100000 in
set_option maxHeartbeats 1000000 in
theorem unfolding_any (p : Option Addr) (n c : Nat) (l : List UInt8) (w : World) (hl : l.length = n) (hn : n ≤ 1048576) (hcap : n ≤ c) (hc : BA w p l) (hp : p = none → c = 0) :
    Calls Tryf.prog 45 #[.agg #[.slice p n c, .int .u64 0]] w (Unfolds (l.drop (bodyStart l 0)) w) := by
  have hmf : ∀ (fn : Fn) (first cap : Array Value) (w : World), (Instr.makeFunc fn first cap).run Tryf.prog w = .ok (.func fn first cap) w := fun _ _ _ _ => rfl
  have hc2 : ∀ o1 o2, BA ((w.alloc o1).alloc o2) p l := fun o1 o2 => hc.below (((Below.refl _ w).alloc (Nat.le_refl _) o1).alloc (by simp) o2)
  have HC := hide hc2
  clear hc hc2
  go_enter Tryf.func45, Tryf.ntmps45
  go_wp2_with fail
  refine (body_any p n c l _ hl hn hcap (by exact unhide HC _ _) hp).mono ?_
  rintro e w1 ⟨v, rfl, ⟨q, cap, rfl, hq1, hq2, hq3⟩, hb1⟩
  have hcell : w1.cell? ⟨w.heap.size + 1, 0, none⟩ = some (.slice none 0 0) := (hb1.cell (p := ⟨w.heap.size + 1, 0, none⟩) (by simp)).trans (by go_simp)
  have hfz : w1.frozen? ⟨w.heap.size + 1, 0, none⟩ = false := (hb1.frozen (p := ⟨w.heap.size + 1, 0, none⟩) (by simp)).trans (by go_simp)
  have hs1 := hb1.size
  simp only [World.size_alloc] at hs1
  have HQ3 := hide hq3
  have HB := hide (((Below.refl _ w).alloc (Nat.le_refl _) (.cells #[.slice p n c, .int .u64 0] 57)).alloc (by simp) (.cells #[.slice none 0 0] 32) |>.trans (hb1.mono (by simp; omega)))
  clear hq3 hb1
  go_wp2
  have hlen : (l.drop (bodyStart l 0)).length = n - bodyStart l 0 := by rw [List.length_drop, hl]
  have h1 := BA_setCell (unhide HQ3) hcell (.slice q (n - bodyStart l 0) cap)
  have hc1 : (w1.setCell ⟨w.heap.size + 1, 0, none⟩ (.slice q (n - bodyStart l 0) cap)).cell? ⟨w.heap.size + 1, 0, none⟩ = some (.slice q (n - bodyStart l 0) cap) := World.cell?_setCell_same' _ _ _ (by rw [hcell]; rfl)
  have hc2 : ((w1.setCell ⟨w.heap.size + 1, 0, none⟩ (.slice q (n - bodyStart l 0) cap)).setCell ⟨w.heap.size + 1, 0, none⟩ (.slice q (n - bodyStart l 0) cap)).cell? ⟨w.heap.size + 1, 0, none⟩ = some (.slice q (n - bodyStart l 0) cap) := World.cell?_setCell_same' _ _ _ (by rw [hc1]; rfl)
  refine bodyPost_ret (v := .tuple #[.slice q (n - bodyStart l 0) cap, .func (.func 58) #[] #[.pointer (some ⟨w.heap.size + 1, 0, none⟩)]]) (by simp [results, Tryf.results45, go_sem, hc2]) rfl ?_
  refine ⟨q, cap, w.heap.size + 1, by rw [hlen], hq1, hq2, BA_setCell h1 hc1 _, ?_, ?_⟩
  · rw [hlen]
    exact hc2
  · exact ((unhide HB).setCell (p := ⟨w.heap.size + 1, 0, none⟩) (by simp) _).setCell (p := ⟨w.heap.size + 1, 0, none⟩) (by simp) _
end Go.Proofs.Qxb6612277aFmt
