import Derived.Test.Qxb6613649aDoorW7
namespace Go.Proofs.Qxb6613649aDoor
open Go.RowKit

theorem own_base {w : World} {B B' e s n : Nat} {v : Value} {xs : List Value} (h : w.ownsRow B e s v n xs) (hB : B' ≤ B) : w.ownsRow B' e s v n xs := by
  obtain ⟨h1, h2⟩ := h
  refine ⟨h1, ?_⟩
  rcases h2 with h2 | ⟨g, cap, cur, h3, h4, h5, h6⟩
  · exact .inl h2
  · exact .inr ⟨g, cap, cur, h3, by omega, h5, h6⟩

theorem row_set31 {n k : Nat} {N : Nat} {v a b : Value} {x y : Value} {xs : List Value} {W : World} (h : W.ownsRow n 62 2 v k xs) (hb : W.heap[N]? = some (.cells #[x, y] 31 (0, 0))) : ((W.setCell ⟨N, 0, none⟩ a).setCell ⟨N, 1, none⟩ b).ownsRow n 62 2 v k xs := by
  refine row_move h ?_
  intro j c fz hc
  have hne : j ≠ N := by
    intro e
    subst e
    rw [hb] at hc
    cases hc
  rw [Below.heap_setCell _ _ _ _ hne, Below.heap_setCell _ _ _ _ hne]
  exact hc

set_option maxRecDepth 100000 in
theorem attrTemplate_any (x : List UInt8) (eb g c : Nat) (src : ByteArray) (gt : TypeId) (gv : Value) (m : Int) (w : World) (he : El eb (.slice (some ⟨g, 0, none⟩) 1 c) w) (ha : At g src w) (h0 : w.cell? ⟨0, 0, none⟩ = some (.iface gt gv)) (h1 : w.cell? ⟨1, 0, none⟩ = some (.int .i64 m)) (hs : src.size ≤ 2097152) :
    Calls Tryd.prog 11 #[.pointer (some ⟨eb, 0, none⟩), .string ⟨#[118]⟩] w (TmPost x src w) := by
  generalize hT : TmPost x src w = T
  have hTr : ∀ (e : Ending) (w' : World), TmPost x src w e w' → T e w' := fun e w' h => by rw [← hT]; exact h
  have HTr := hide hTr
  have hal : Below w.heap.size w (w.alloc (.cells #[.slice none 0 0, .int .i64 0] 31)) := (Below.refl _ _).alloc (Nat.le_refl _) _
  have HE := hide (he.below hal he.lt)
  have HA := hide (ha.below hal ha.lt)
  have HN : Hid ((w.alloc (.cells #[.slice none 0 0, .int .i64 0] 31)).heap[w.heap.size]? = some (.cells #[.slice none 0 0, .int .i64 0] 31 (0, 0))) := hide (heap_alloc_new _ _)
  have hl1 : 1 < w.heap.size := World.block_lt_of_cell? w ⟨1, 0, none⟩ h1
  have H0 := hide ((hal.cell (p := ⟨0, 0, none⟩) (by show 0 < w.heap.size; omega)).trans h0)
  have H1 := hide ((hal.cell (p := ⟨1, 0, none⟩) (by exact hl1)).trans h1)
  have HAl := hide hal
  clear hT hTr he ha h0 h1 hal
  go_enter Tryd.func11, Tryd.ntmps11
  go_wp2_with fail
  refine (attrText_any eb g c src _ (by exact unhide HE) (by exact unhide HA)).mono ?_
  rintro e w2 ⟨⟨p, rfl, hp, hpc⟩, hb2⟩
  have hs2 := hb2.size
  rw [World.size_alloc] at hs2
  have HE2 := hide ((unhide HE).below hb2 (unhide HE).lt)
  have HN2 := hide ((hb2.block w.heap.size (by simp)).trans (unhide HN))
  have H02 := hide ((hb2.cell (p := ⟨0, 0, none⟩) (by rw [World.size_alloc]; show 0 < _; omega)).trans (unhide H0))
  have H12 := hide ((hb2.cell (p := ⟨1, 0, none⟩) (by rw [World.size_alloc]; show 1 < _; omega)).trans (unhide H1))
  have HPc := hide hpc
  have HB2 := hide hb2
  clear hpc hb2 hp
  go_wp2_with fail
  refine (template_any x eb p src _ gt gv m w2 (unhide HE2) (unhide HPc) (unhide H02) (unhide H12) hs).mono ?_
  have hbs : Below w.heap.size w w2 := (unhide HAl).trans ((unhide HB2).mono (by simp))
  have HBs := hide hbs
  clear hbs
  rintro e w3 (⟨v, ps, ln, rfl, hown, k1, k2, k3, k4, hb3⟩ | ⟨t, y, rfl, k1, hb3⟩)
  · obtain ⟨vx, vc, rfl⟩ := row_shape hown
    have hn3 := (hb3.block w.heap.size (by omega)).trans (unhide HN2)
    obtain ⟨d0, d1, f0, f1⟩ : w3.cell? ⟨w.heap.size, 0, none⟩ = some (.slice none 0 0) ∧ w3.cell? ⟨w.heap.size, 1, none⟩ = some (.int .i64 0) ∧ w3.frozen? ⟨w.heap.size, 0, none⟩ = false ∧ w3.frozen? ⟨w.heap.size, 1, none⟩ = false := ⟨by simp [World.cell?, hn3], by simp [World.cell?, hn3], by simp [World.frozen?, hn3], by simp [World.frozen?, hn3]⟩
    obtain ⟨z0, z1⟩ := set2_cells hn3 (.slice vx ps.length vc) (.int .i64 ln)
    have HR := hide (row_set31 (a := .slice vx ps.length vc) (b := .int .i64 ln) (own_base hown (Nat.le_trans (by omega) hs2 : w.heap.size ≤ w2.heap.size)) hn3)
    have HB3 := hide ((unhide HBs).trans (hb3.mono (by omega)))
    clear hown hb3 hn3
    go_wp2_with fail
    refine bodyPost_ret (v := .tuple #[.agg #[.slice vx ps.length vc, .int .i64 ln], .nilIface]) (by simp [results, Tryd.results11, go_sem, z0, z1]) rfl (unhide HTr _ _ (.inl ⟨_, ps, ln, rfl, unhide HR, k1, k2, k3, k4, ?_⟩))
    exact ((unhide HB3).setCell (by exact Nat.le_refl _) _).setCell (by exact Nat.le_refl _) _
  · have hn3 := (hb3.block w.heap.size (by omega)).trans (unhide HN2)
    obtain ⟨d0, d1, f0, f1⟩ : w3.cell? ⟨w.heap.size, 0, none⟩ = some (.slice none 0 0) ∧ w3.cell? ⟨w.heap.size, 1, none⟩ = some (.int .i64 0) ∧ w3.frozen? ⟨w.heap.size, 0, none⟩ = false ∧ w3.frozen? ⟨w.heap.size, 1, none⟩ = false := ⟨by simp [World.cell?, hn3], by simp [World.cell?, hn3], by simp [World.frozen?, hn3], by simp [World.frozen?, hn3]⟩
    obtain ⟨z0, z1⟩ := set2_cells hn3 (.slice none 0 0) (.int .i64 0)
    have HB3 := hide ((unhide HBs).trans (hb3.mono (by omega)))
    clear hb3 hn3
    go_wp2_with fail
    refine bodyPost_ret (v := .tuple #[.agg #[.slice none 0 0, .int .i64 0], .iface t y]) (by simp [results, Tryd.results11, go_sem, z0, z1]) rfl (unhide HTr _ _ (.inr ⟨t, y, rfl, k1, ?_⟩))
    exact ((unhide HB3).setCell (by exact Nat.le_refl _) _).setCell (by exact Nat.le_refl _) _
end Go.Proofs.Qxb6613649aDoor
