import Derived.Test.Qxb6613649aDoorW2
namespace Go.Proofs.Qxb6613649aDoor
open Go.RowKit

theorem At.lt {g : Nat} {s : ByteArray} {w : World} (h : At g s w) : g < w.heap.size := by
  obtain ⟨r, hr⟩ := h
  exact (Array.getElem?_eq_some_iff.1 hr).1
theorem At.below {g B : Nat} {s : ByteArray} {w w' : World} (h : At g s w) (hb : Below B w w') (hB : g < B) : At g s w' := by
  obtain ⟨r, hr⟩ := h
  exact ⟨r, (hb.block g hB).trans hr⟩

set_option maxRecDepth 100000 in
theorem attr_any (eb g c : Nat) (s : ByteArray) (w : World) (h : El eb (.slice (some ⟨g, 0, none⟩) 1 c) w) (ha : At g s w) :
    Calls Tryd.prog 28 #[.pointer (some ⟨eb, 0, none⟩), .string ⟨#[118]⟩] w fun e w' => e = .returned (.string s) ∧ Below w.heap.size w w' := by
  obtain ⟨c0, c1, c5, f1⟩ := h.cells
  obtain ⟨d0, d1, d2⟩ := ha.cells
  have hg : g < w.heap.size := by
    obtain ⟨r, hr⟩ := ha
    exact (Array.getElem?_eq_some_iff.1 hr).1
  clear h ha
  go_enter Tryd.func28, Tryd.ntmps28
  go_wp2_with fail
  go_loopw [12] (fun i wr => i = .int .i64 0 ∧ wr = w) (fun _ _ => 0)
  case atStart => exact ⟨rfl, rfl⟩
  case round =>
    obtain ⟨rfl, rfl⟩ := hrel
    go_wp2_with fail
    go_ret
    exact ⟨rfl, (Below.refl _ _).alloc (Nat.le_refl _) _⟩

/-- The pieces of the law's text: the one piece begins at 0 on line 1. -/
def Pc (p : Nat) (w : World) : Prop := w.heap[p]? = some (.cells #[.int .i64 0, .int .i64 1] 84 (0, 0))
theorem Pc.cells {p : Nat} {w : World} (h : Pc p w) : w.cell? ⟨p, 0, none⟩ = some (.int .i64 0) ∧ w.cell? ⟨p, 1, none⟩ = some (.int .i64 1) := by
  unfold Pc at h
  exact ⟨by simp [World.cell?, h], by simp [World.cell?, h]⟩
theorem Pc.lt {p : Nat} {w : World} (h : Pc p w) : p < w.heap.size := (Array.getElem?_eq_some_iff.1 h).1
theorem Pc.below {p B : Nat} {w w' : World} (h : Pc p w) (hb : Below B w w') (hB : p < B) : Pc p w' := by
  unfold Pc at h ⊢
  rw [hb.block p hB]; exact h

theorem textAt_any (s : ByteArray) (w : World) :
    Calls Tryd.prog 27 #[.string s, .int .i64 1] w fun e w' => e = .returned (.agg #[.string s, .slice (some ⟨w.heap.size + 1, 0, none⟩) 1 1]) ∧ Pc (w.heap.size + 1) w' ∧ Below w.heap.size w w' := by
  go_enter Tryd.func27, Tryd.ntmps27
  go_wp2_with fail
  refine bodyPost_ret (v := .agg #[.string s, .slice (some ⟨w.heap.size + 1, 0, none⟩) 1 1]) (by simp [results, Tryd.results27, go_sem]) rfl ⟨rfl, ?_, ?_⟩
  · unfold Pc
    have := heap_alloc_new (w.alloc (.cells #[.string s, .slice (some ⟨w.heap.size + 1, 0, none⟩) 1 1] 44)) (.cells #[.int .i64 0, .int .i64 1] 84)
    rw [World.size_alloc] at this
    exact this
  · exact ((Below.refl _ _).alloc (Nat.le_refl _) _).alloc (by simp) _

/-- What attrText leans on between its calls. -/
def Tx (eb g c nb : Nat) (s : ByteArray) (W : World) : Prop :=
  El eb (.slice (some ⟨g, 0, none⟩) 1 c) W ∧ At g s W ∧ W.heap[nb]? = some (.cells #[.string ⟨#[]⟩, .slice none 0 0] 44 (0, 0))
theorem Tx.below {eb g c nb : Nat} {s : ByteArray} {W W' : World} (h : Tx eb g c nb s W) (hb : Below W.heap.size W W') : Tx eb g c nb s W' :=
  ⟨h.1.below hb h.1.lt, h.2.1.below hb h.2.1.lt, (hb.block nb (Array.getElem?_eq_some_iff.1 h.2.2).1).trans h.2.2⟩
theorem Tx.cells {eb g c nb : Nat} {s : ByteArray} {W : World} (h : Tx eb g c nb s W) : W.cell? ⟨eb, 5, none⟩ = some (.int .i64 1) ∧ W.cell? ⟨nb, 0, none⟩ = some (.string ⟨#[]⟩) ∧ W.cell? ⟨nb, 1, none⟩ = some (.slice none 0 0) ∧ W.frozen? ⟨nb, 0, none⟩ = false ∧ W.frozen? ⟨nb, 1, none⟩ = false := by
  have := h.2.2
  exact ⟨h.1.cells.2.2.1, by simp [World.cell?, this], by simp [World.cell?, this], by simp [World.frozen?, this], by simp [World.frozen?, this]⟩

theorem keep2 {eb nb o : Nat} {v : Value} {W : World} (hne : eb ≠ nb) (h : W.cell? ⟨eb, o, none⟩ = some v) (a b : Value) : ((W.setCell ⟨nb, 0, none⟩ a).setCell ⟨nb, 1, none⟩ b).cell? ⟨eb, o, none⟩ = some v := by
  rw [← h]
  apply World.cell?_of_block
  rw [Below.heap_setCell _ _ _ _ hne, Below.heap_setCell _ _ _ _ hne]

theorem set2_block {nb : Nat} {t : TypeId} {a b : Value} {W : World} (h : W.heap[nb]? = some (.cells #[a, b] t (0, 0))) (u v : Value) : ((W.setCell ⟨nb, 0, none⟩ u).setCell ⟨nb, 1, none⟩ v).heap[nb]? = some (.cells #[u, v] t (0, 0)) := by
  simp [World.setCell, Array.getElem?_modify, h]
theorem set2_cells {nb : Nat} {t : TypeId} {a b : Value} {W : World} (h : W.heap[nb]? = some (.cells #[a, b] t (0, 0))) (u v : Value) : ((W.setCell ⟨nb, 0, none⟩ u).setCell ⟨nb, 1, none⟩ v).cell? ⟨nb, 0, none⟩ = some u ∧ ((W.setCell ⟨nb, 0, none⟩ u).setCell ⟨nb, 1, none⟩ v).cell? ⟨nb, 1, none⟩ = some v := by
  have := set2_block h u v
  exact ⟨by simp only [World.cell?, this]; rfl, by simp only [World.cell?, this]; rfl⟩

set_option maxRecDepth 100000 in
theorem attrText_any (eb g c : Nat) (s : ByteArray) (w : World) (h : El eb (.slice (some ⟨g, 0, none⟩) 1 c) w) (ha : At g s w) :
    Calls Tryd.prog 16 #[.pointer (some ⟨eb, 0, none⟩), .string ⟨#[118]⟩] w fun e w' => (∃ p, e = .returned (.agg #[.string s, .slice (some ⟨p, 0, none⟩) 1 1]) ∧ w.heap.size ≤ p ∧ Pc p w') ∧ Below w.heap.size w w' := by
  obtain ⟨c0, c1, c5, f1⟩ := h.cells
  have hal : Below w.heap.size w (w.alloc (.cells #[.string ⟨#[]⟩, .slice none 0 0] 44)) := (Below.refl _ _).alloc (Nat.le_refl _) _
  have HT : Hid (Tx eb g c w.heap.size s (w.alloc (.cells #[.string ⟨#[]⟩, .slice none 0 0] 44))) := hide ⟨h.below hal h.lt, ha.below hal ha.lt, heap_alloc_new _ _⟩
  have HAl := hide hal
  have hne : eb ≠ w.heap.size := Nat.ne_of_lt h.lt
  have hlt := h.lt
  clear h ha hal
  go_enter Tryd.func16, Tryd.ntmps16
  go_wp2_with fail
  go_region_held3 (fun w' => w'.cell? ⟨eb, 5, none⟩ = some (.int .i64 1)) (first | go_keep | exact hkeep _ _) (first
    | (go_at_call 28; refine (attr_any eb g c s _ (by exact (unhide HT).1) (by exact (unhide HT).2.1)).mono ?_; rintro e w1 ⟨rfl, hb1⟩; have HT1 := hide (Tx.below (eb := eb) (g := g) (c := c) (nb := w.heap.size) (s := s) (by exact unhide HT) hb1); obtain ⟨x1, x2, x3, x4, x5⟩ := (unhide HT1).cells; have HB1 := hide hb1; clear hb1)
    | (go_at_call 27; refine (textAt_any s _).mono ?_; rintro e w2 ⟨rfl, hp, hb2⟩; have HT2 := hide (Tx.below (eb := eb) (g := g) (c := c) (nb := w.heap.size) (s := s) (by exact unhide HT1) hb2); obtain ⟨y1, y2, y3, y4, y5⟩ := (unhide HT2).cells; have HB2 := hide hb2; have hkeep := keep2 hne y1; have HP2 := hide hp; clear hb2 hp))
  obtain ⟨z0, z1⟩ := set2_cells (unhide HT2).2.2 (.string s) (.slice (some ⟨w1.heap.size + 1, 0, none⟩) 1 1)
  go_wp2_with fail
  refine bodyPost_ret (v := .agg #[.string s, .slice (some ⟨w1.heap.size + 1, 0, none⟩) 1 1]) (by simp [results, Tryd.results16, go_sem, z0, z1]) rfl ?_
  have hs1 : w.heap.size + 1 ≤ w1.heap.size := by
    have := (unhide HB1).size
    simpa using this
  have hbl : Below w.heap.size w w2 := ((unhide HAl).drew.trans ((unhide HB1).mono (by simp))).trans ((unhide HB2).mono (by omega))
  refine ⟨⟨_, rfl, by omega, ?_⟩, (hbl.setCell (by exact Nat.le_refl _) _).setCell (by exact Nat.le_refl _) _⟩
  have := unhide HP2
  unfold Pc at this ⊢
  rw [Below.heap_setCell _ _ _ _ (by show w1.heap.size + 1 ≠ w.heap.size; omega), Below.heap_setCell _ _ _ _ (by show w1.heap.size + 1 ≠ w.heap.size; omega)]
  exact this
end Go.Proofs.Qxb6613649aDoor
