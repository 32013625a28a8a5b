import Derived.Test.Qxb6613049aFmtW14
namespace Go.Proofs.Qxb6613049aFmt
open Go.RowKit Go.Stop

theorem Row.get {w : World} : ∀ {cs : List Chal} {xs : List Value}, Row cs xs w → ∀ (k : Nat) (h : k < cs.length), ∃ mp, xs[k * 3]? = some (.string ⟨cs[k].1.toArray⟩) ∧ xs[k * 3 + 1]? = some (.string ⟨cs[k].2.1.toArray⟩) ∧ xs[k * 3 + 2]? = some (.map mp) ∧ MP cs[k].2.2 (.map mp) w
  | [], _, _, k, h => by simp at h
  | c :: cs, xs, ⟨pm, ys, h1, h2, h3⟩, k, h => by
    match k with
    | 0 =>
      obtain ⟨mp, rfl⟩ : ∃ m, pm = .map m := by obtain ⟨m, h, _⟩ := mp_look h2 ⟨#[]⟩; exact ⟨m, h⟩
      subst h1
      exact ⟨mp, rfl, rfl, rfl, h2⟩
    | k + 1 =>
      obtain ⟨mp, e1, e2, e3, e4⟩ := Row.get h3 k (by simpa using h)
      subst h1
      refine ⟨mp, ?_, ?_, ?_, e4⟩
      · rw [show (k + 1) * 3 = k * 3 + 3 by omega]; simpa using e1
      · rw [show (k + 1) * 3 + 1 = k * 3 + 1 + 3 by omega]; simpa using e2
      · rw [show (k + 1) * 3 + 2 = k * 3 + 2 + 3 by omega]; simpa using e3

theorem own_cell {w : World} {B n : Nat} {v : Value} {xs : List Value} (h : w.ownsRow B 39 3 v n xs) (j : Nat) (x : Value) (hx : xs[j]? = some x) : ∃ g cap, v = .slice (some ⟨g, 0, none⟩) n cap ∧ w.cell? ⟨g, j, none⟩ = some x := by
  have hj := (List.getElem?_eq_some_iff.1 hx).1
  rcases h.2 with ⟨h1, h2⟩ | ⟨g, cap, cur, h3, h4, h5, h6, h7, h8, h9⟩
  · have := h.1; omega
  · refine ⟨g, cap, h3, ?_⟩
    have h10 : (cur.toList.take (n * 3))[j]? = some x := by rw [h9]; exact hx
    rw [List.getElem?_take_of_lt (by have := h.1; omega)] at h10
    have hc : cur[j]? = some x := by simpa using h10
    simp [World.cell?, h5, hc]

theorem mkChs (n : Nat) (hn : n ≤ 4194304) (w : World) : ∃ zs : Array Value, zs.size = n * 3 ∧ (Instr.makeSlice 30 (.int .i64 (n : Int)) (.int .i64 (n : Int))).run Tryf.prog w = .ok (.slice (some ⟨w.heap.size, 0, none⟩) n n) (w.alloc (.cells zs 39)) := by
  obtain ⟨i0, hi, hz0, hz1, hz2⟩ := info_parts info39
  have h := run_make (P := Tryf.prog) w 30 39 i0 _ Tryf.underlying30 hi hz0 .i64 .i64 n n (by omega) (by omega) (by rw [hz2]; omega) (by omega)
  rw [hz1, show ((n : Int)).toNat = n by simp] at h
  exact ⟨_, size_madeCells _ _, h⟩

theorem set3 (l xs : List Value) (k : Nat) (a b c : Value) (h : k * 3 + 3 ≤ l.length) (ht : l.take (k * 3) = xs.take (k * 3)) (e0 : xs[k * 3]? = some a) (e1 : xs[k * 3 + 1]? = some b) (e2 : xs[k * 3 + 2]? = some c) :
    (((l.set (k * 3) a).set (k * 3 + 1) b).set (k * 3 + 2) c).take ((k + 1) * 3) = xs.take ((k + 1) * 3) := by
  apply List.ext_getElem?
  intro j
  by_cases hj : j < (k + 1) * 3
  · rw [List.getElem?_take_of_lt hj, List.getElem?_take_of_lt hj]
    rcases (show j < k * 3 ∨ j = k * 3 ∨ j = k * 3 + 1 ∨ j = k * 3 + 2 by omega) with h1 | h1 | h1 | h1
    · rw [List.getElem?_set_ne (by omega), List.getElem?_set_ne (by omega), List.getElem?_set_ne (by omega)]
      have := congrArg (·[j]?) ht
      simpa only [List.getElem?_take_of_lt h1] using this
    · subst h1
      rw [List.getElem?_set_ne (by omega), List.getElem?_set_ne (by omega), List.getElem?_set_self (by omega), e0]
    · subst h1
      rw [List.getElem?_set_ne (by omega), List.getElem?_set_self (by rw [List.length_set]; omega), e1]
    · subst h1
      rw [List.getElem?_set_self (by rw [List.length_set, List.length_set]; omega), e2]
  · rw [List.getElem?_eq_none (by rw [List.length_take]; omega), List.getElem?_eq_none (by rw [List.length_take]; omega)]
theorem row_set {w : World} {G : Nat} {cur : Array Value} {t : TypeId} (h : w.heap[G]? = some (.cells cur t (0, 0))) (j : Nat) (v : Value) : (w.setCell ⟨G, j, none⟩ v).heap[G]? = some (.cells (cur.setIfInBounds j v) t (0, 0)) := by
  simp [World.setCell, Array.getElem?_modify, h]

set_option maxRecDepth 100000 in
set_option maxHeartbeats 2000000 in
theorem clone_any (B g cap : Nat) (cs : List Chal) (xs : List Value) (w : World) (hn : cs.length ≤ 4194304) (hown : w.ownsRow B 39 3 (.slice (some ⟨g, 0, none⟩) cs.length cap) cs.length xs) (hrow : Row cs xs w) :
    Calls Tryf.prog 16 #[.slice (some ⟨g, 0, none⟩) cs.length cap] w fun e w' => (∃ v, e = .returned v ∧ w'.ownsRow w.heap.size 39 3 v cs.length xs) ∧ Below w.heap.size w w' := by
  have hnn := fun w => Lib.run_eql_slice_nil (P := Tryf.prog) w 30 39 (some ⟨g, 0, none⟩) cs.length cap 0 0 Tryf.underlying30
  obtain ⟨zs, hzs, hmk⟩ := mkChs cs.length hn w
  have hlx := Row.len hrow
  have hgl : g < w.heap.size := by
    rcases hown.2 with ⟨h1, _⟩ | ⟨g', cap', cur, h3, h4, h5, _⟩
    · cases h1
    · cases h3; exact (Array.getElem?_eq_some_iff.1 h5).1
  have HOwn := hide hown
  have HRow := hide hrow
  clear hown hrow
  go_enter Tryf.func16, Tryf.ntmps16
  go_wp2_with fail
  go_loopw [4] (fun i wr => ∃ (k : Nat) (cur : Array Value), k ≤ cs.length ∧ i = .int .i64 k ∧ cur.size = cs.length * 3 ∧ cur.toList.take (k * 3) = xs.take (k * 3) ∧ wr.heap[w.heap.size]? = some (.cells cur 39 (0, 0)) ∧ Below w.heap.size w wr) (fun i _ => cs.length - (intOf i).toNat)
  case atStart => exact ⟨0, zs, Nat.zero_le _, rfl, hzs, by simp, Array.getElem?_push_size, (Below.refl _ w).alloc (Nat.le_refl _) _⟩
  case round =>
    obtain ⟨k, cur, hk, rfl, hcur, htk, hrw, hbe⟩ := hrel
    by_cases hlt : k < cs.length
    · obtain ⟨mp, e0, e1, e2, _⟩ := (unhide HRow).get k hlt
      have hx0 : wr.cell? ⟨g, k * 3, none⟩ = some (.string ⟨cs[k].1.toArray⟩) := by
        obtain ⟨g', c', hv, hc⟩ := own_cell (unhide HOwn) _ _ e0
        cases hv; exact (hbe.cell (p := ⟨g, _, none⟩) hgl).trans hc
      have hx1 : wr.cell? ⟨g, k * 3 + 1, none⟩ = some (.string ⟨cs[k].2.1.toArray⟩) := by
        obtain ⟨g', c', hv, hc⟩ := own_cell (unhide HOwn) _ _ e1
        cases hv; exact (hbe.cell (p := ⟨g, _, none⟩) hgl).trans hc
      have hx2 : wr.cell? ⟨g, k * 3 + 2, none⟩ = some (.map mp) := by
        obtain ⟨g', c', hv, hc⟩ := own_cell (unhide HOwn) _ _ e2
        cases hv; exact (hbe.cell (p := ⟨g, _, none⟩) hgl).trans hc
      have hf : ∀ j, wr.frozen? ⟨w.heap.size, j, none⟩ = false := fun j => by simp [World.frozen?, hrw]
      have hy : ∀ j, j < cs.length * 3 → ∃ y, wr.cell? ⟨w.heap.size, j, none⟩ = some y := fun j hj => ⟨cur[j]'(by omega), by simp [World.cell?, hrw, hcur, hj]⟩
      obtain ⟨y0, hy0⟩ := hy (k * 3) (by omega)
      obtain ⟨y1, hy1⟩ := hy (k * 3 + 1) (by omega)
      obtain ⟨y2, hy2⟩ := hy (k * 3 + 2) (by omega)
      have hf0 := hf (k * 3)
      have hf1 := hf (k * 3 + 1)
      have hf2 := hf (k * 3 + 2)
      clear hf hy
      have HRw := hide hrw
      have HBe := hide hbe
      have HTk := hide htk
      clear hrw hbe htk
      go_wp2_with fail
      go_roundw
      case rel =>
        refine ⟨k + 1, ((cur.setIfInBounds (k * 3) (.string ⟨cs[k].1.toArray⟩)).setIfInBounds (k * 3 + 1) (.string ⟨cs[k].2.1.toArray⟩)).setIfInBounds (k * 3 + 2) (.map mp), by omega, by go_num, by simpa using hcur, ?_, row_set (row_set (row_set (unhide HRw) _ _) _ _) _ _, ?_⟩
        · rw [Array.toList_setIfInBounds, Array.toList_setIfInBounds, Array.toList_setIfInBounds]
          exact set3 cur.toList xs k _ _ _ (by rw [Array.length_toList]; omega) (unhide HTk) e0 e1 e2
        · exact (((unhide HBe).setCell (p := ⟨w.heap.size, k * 3, none⟩) (Nat.le_refl _) _).setCell (p := ⟨w.heap.size, k * 3 + 1, none⟩) (Nat.le_refl _) _).setCell (p := ⟨w.heap.size, k * 3 + 2, none⟩) (Nat.le_refl _) _
      case measure => simp [intOf]; omega
    · go_wp2_with fail
      go_ret
      refine ⟨⟨_, rfl, ?_⟩, hbe⟩
      refine ⟨hlx, .inr ⟨w.heap.size, cs.length, cur, rfl, Nat.le_refl _, hrw, Nat.le_refl _, by unfold maxLen; omega, hcur, ?_⟩⟩
      obtain rfl : k = cs.length := by omega
      rw [htk, List.take_of_length_le (by omega)]
end Go.Proofs.Qxb6613049aFmt
