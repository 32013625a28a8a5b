/-
  Walks: addText at a fresh fieldBody.
-/
import Derived.Test.Qxb6612277aFmtW5
namespace Go.Proofs.Qxb6612277aFmt
open Go.RowKit

/-- The body holds the text t and its ranks. -/
def Filled (fb : Nat) (t : List UInt8) (w w' : World) : Prop :=
  ∃ p c1 q c2, w'.cell? ⟨fb, 0, none⟩ = some (.slice p t.length c1) ∧ BA w' p t ∧ w'.cell? ⟨fb, 1, none⟩ = some (.slice q t.length c2) ∧ RA w' q t ∧ Below fb w w'

/-- k ranks laid, the rest zero. -/
def rks (t : List UInt8) (n k : Nat) : Array Value := ((List.range n).map fun i => if i < k then Value.int .u8 (rk t i) else .int .u8 0).toArray

theorem rks_size (t : List UInt8) (n k : Nat) : (rks t n k).size = n := by simp [rks]
theorem rks_zero (t : List UInt8) (n : Nat) : rks t n 0 = zs n := by
  apply Array.toList_inj.1
  rw [zs, toList_madeCells_one]
  simp only [rks, Nat.not_lt_zero, if_false]
  apply List.ext_getElem
  · simp
  · intro i h1 h2; simp
theorem rks_set (t : List UInt8) (n k : Nat) : (rks t n k).setIfInBounds k (.int .u8 (rk t k)) = rks t n (k + 1) := by
  apply Array.ext
  · simp [rks]
  · intro i h1 h2
    simp only [rks] at h1 h2 ⊢
    rw [Array.getElem_setIfInBounds (by simpa using h1)]
    simp only [List.getElem_toArray, List.getElem_map, List.getElem_range]
    by_cases e : k = i
    · subst e; simp
    · rw [if_neg e]
      by_cases h : i < k
      · rw [if_pos h, if_pos (by omega)]
      · rw [if_neg h, if_neg (by omega)]
theorem rks_get (t : List UInt8) (n i : Nat) (hi : i < n) : (rks t n n)[i]? = some (.int .u8 (rk t i)) := by
  simp [rks, hi]

theorem cell_of2 {w : World} {fb : Nat} {x y : Value} (h : w.heap[fb]? = some (.cells #[x, y] 59 (0, 0))) (i : Nat) : w.cell? ⟨fb, i, none⟩ = (#[x, y] : Array Value)[i]? := by simp [World.cell?, h]
theorem own_zs {w1 : World} {B g n : Nat} (hg : B ≤ g) (hk : w1.heap[g]? = some (.cells (zs n) 5 (0, 0))) (hn : n ≤ 1048576) : w1.ownsRow B 5 1 (.slice (some ⟨g, 0, none⟩) 0 n) 0 [] :=
  ⟨by simp, .inr ⟨g, n, zs n, rfl, hg, hk, Nat.zero_le _, by unfold maxLen; omega, by rw [zs_size]; omega, by simp⟩⟩
theorem frozen_of2 {w : World} {fb : Nat} {x y : Value} (h : w.heap[fb]? = some (.cells #[x, y] 59 (0, 0))) (i : Nat) : w.frozen? ⟨fb, i, none⟩ = false := by simp [World.frozen?, h]
theorem lt_fb {w : World} {fb : Nat} {o : Obj} (h : w.heap[fb]? = some o) : fb < w.heap.size := by
  rcases Nat.lt_or_ge fb w.heap.size with h' | h'
  · exact h'
  · rw [Array.getElem?_eq_none h'] at h; cases h
theorem kept2 {w w' : World} {fb g : Nat} {o : Obj} (hg : w.grownBy w' (some g)) (h : w.heap[fb]? = some o) (hne : fb ≠ g) : w'.heap[fb]? = some o := by
  rw [hg.block fb (lt_fb h) (fun e => hne (by injection e))]; exact h
theorem own_pos {w : World} {B : Nat} {e : TypeId} {v : Value} {n : Nat} {xs : List Value} (h : w.ownsRow B e 1 v n xs) (hn : 0 < n) : ∃ g cap, v = .slice (some ⟨g, 0, none⟩) n cap := by
  rcases h.2 with ⟨_, h0⟩ | ⟨g, cap, _, hv, _⟩
  · omega
  · exact ⟨g, cap, hv⟩
theorem strCells_bytes (s : ByteArray) : Lib.strCells s = Lib.byteCells s.data.toList := rfl

/-- The world behind 'b.text = append(b.text, s...)'. -/
def Ready (fb : Nat) (s : ByteArray) (w W3 : World) (g2 g' cap' : Nat) : Prop :=
  W3.heap[fb]? = some (.cells #[.slice (some ⟨g', 0, none⟩) s.size cap', .slice (some ⟨g2, 0, none⟩) 0 s.size] 59 (0, 0)) ∧ W3.heap[g2]? = some (.cells (zs s.size) 60 (0, 0)) ∧ BA W3 (some ⟨g', 0, none⟩) s.data.toList ∧ (fb < g2 ∧ g' ≠ g2 ∧ fb ≠ g') ∧ Below fb w W3

theorem after_append (fb : Nat) (s : ByteArray) (w w1 w2 : World) (g1 g2 g' cap' : Nat) (hne : g1 ≠ g2) (hg1 : w.heap.size ≤ g1) (hg2 : w.heap.size ≤ g2)
    (hb : w.heap[fb]? = some (.cells #[.slice none 0 0, .slice none 0 0] 59 (0, 0))) (hk2 : w1.heap[g2]? = some (.cells (zs s.size) 60 (0, 0)))
    (hkf : w1.heap[fb]? = some (.cells #[.slice (some ⟨g1, 0, none⟩) 0 s.size, .slice (some ⟨g2, 0, none⟩) 0 s.size] 59 (0, 0)))
    (hg : w1.grownBy w2 (some g1)) (ho : w2.ownsRow w.heap.size 5 1 (.slice (some ⟨g', 0, none⟩) (0 + s.size) cap') (0 + s.size) ([] ++ Lib.strCells s)) (hbel : Below fb w w1) :
    Ready fb s w (w2.setCell ⟨fb, 0, none⟩ (.slice (some ⟨g', 0, none⟩) s.size cap')) g2 g' cap' := by
  have hlt := lt_fb hb
  have hf2 := kept2 hg hkf (by omega)
  have h22 := kept2 hg hk2 (by omega)
  rw [Nat.zero_add, List.nil_append, strCells_bytes] at ho
  have hlen : s.data.toList.length = s.size := by simp
  have ho' : w2.ownsRow w.heap.size 5 1 (.slice (some ⟨g', 0, none⟩) s.size cap') s.data.toList.length (Lib.byteCells s.data.toList) := by rw [hlen]; exact ho
  have hblk : w.heap.size ≤ g' := (ho.lt g' rfl).1
  have hg5 : ∃ cur, w2.heap[g']? = some (.cells cur 5 (0, 0)) := by
    rcases ho.2 with ⟨h, _⟩ | ⟨g, cap, cur, h, _, hh, _⟩
    · cases h
    · cases h; exact ⟨cur, hh⟩
  have hne2 : g' ≠ g2 := by
    rintro rfl
    obtain ⟨cur, hh⟩ := hg5
    rw [hh] at h22
    simp at h22
  have hba : BA w2 (some ⟨g', 0, none⟩) s.data.toList := by
    obtain ⟨p, cap, e, _, hb', _⟩ := BA_of_owns ho'
    injection e with e1 e2 e3
    subst e1
    exact hb'
  refine ⟨?_, ?_, ?_, ⟨by omega, hne2, by omega⟩, ?_⟩
  · simp [World.setCell, Array.getElem?_modify, hf2]
  · rw [Below.heap_setCell _ _ _ _ (by show g2 ≠ fb; omega)]; exact h22
  · refine BA.mk fun i hi' => ?_
    rw [World.cell?_of_block (w := w2) (a := ⟨g', 0 + i, none⟩) (Below.heap_setCell _ _ _ _ (by show g' ≠ fb; omega))]
    exact hba.cell i hi'
  · exact ((hbel.grown hg (by have := hbel.size; omega) (fun k e => by injection e; omega)).setCell (p := ⟨fb, 0, none⟩) (Nat.le_refl _) _)

/-- k ranks have been laid; nothing else has turned. -/
def Ranked (t : List UInt8) (n g2 : Nat) (W3 : World) (k : Nat) (wr : World) : Prop :=
  wr.heap[g2]? = some (.cells (rks t n k) 60 (0, 0)) ∧ W3.grownBy wr (some g2)

theorem Ranked.cell {t : List UInt8} {n g2 k : Nat} {W3 wr : World} (h : Ranked t n g2 W3 k wr) (hk : k < n) : wr.cell? ⟨g2, k, none⟩ = some (.int .u8 0) ∧ wr.frozen? ⟨g2, k, none⟩ = false := by
  refine ⟨?_, by simp [World.frozen?, h.1]⟩
  have : wr.cell? ⟨g2, k, none⟩ = (rks t n k)[k]? := by simp [World.cell?, h.1]
  rw [this]
  simp [rks, hk]
theorem Ranked.step {t : List UInt8} {n g2 k : Nat} {W3 wr : World} (h : Ranked t n g2 W3 k wr) (r : Int) (hr : rk t k = r) : Ranked t n g2 W3 (k + 1) (wr.setCell ⟨g2, k, none⟩ (.int .u8 r)) := by
  subst hr
  refine ⟨?_, ?_⟩
  · rw [← rks_set]
    simp [World.setCell, Array.getElem?_modify, h.1]
  · exact ⟨h.2.os, h.2.tape, h.2.output, by simpa [World.setCell] using h.2.size, fun j hj hne => by
      rw [Below.heap_setCell _ _ _ _ (by show j ≠ g2; intro e; subst e; exact hne rfl)]
      exact h.2.block j hj hne⟩

theorem filled_end {fb : Nat} {s : ByteArray} {w W3 wr : World} {g2 g' cap' : Nat} (hr : Ready fb s w W3 g2 g' cap') (hk : Ranked s.data.toList s.size g2 W3 s.size wr) :
    Filled fb s.data.toList w (wr.setCell ⟨fb, 1, none⟩ (.slice (some ⟨g2, 0, none⟩) s.size s.size)).drew := by
  obtain ⟨h1, h2, h3, ⟨n1, n2, n3⟩, h5⟩ := hr
  have hlen : s.data.toList.length = s.size := by simp
  have hkf := kept2 hk.2 h1 (by omega)
  have hlt := lt_fb h1
  have hlt2 := lt_fb h2
  have hf : (wr.setCell ⟨fb, 1, none⟩ (.slice (some ⟨g2, 0, none⟩) s.size s.size)).heap[fb]? = some (.cells #[.slice (some ⟨g', 0, none⟩) s.size cap', .slice (some ⟨g2, 0, none⟩) s.size s.size] 59 (0, 0)) := by
    simp [World.setCell, Array.getElem?_modify, hkf]
  refine ⟨some ⟨g', 0, none⟩, cap', some ⟨g2, 0, none⟩, s.size, ?_, ?_, ?_, ?_, ?_⟩
  · rw [hlen]; exact cell_of2 hf 0
  · refine BA.mk fun i hi => ?_
    show (wr.setCell _ _).cell? _ = _
    rw [World.cell?_of_block (w := wr) (a := ⟨g', 0 + i, none⟩) (Below.heap_setCell _ _ _ _ (by show g' ≠ fb; omega))]
    have := h3.cell i hi
    exact hk.2.cell this (by intro e; injection e with e; exact n2 e)
  · rw [hlen]; exact cell_of2 hf 1
  · intro i hi
    refine ⟨g2, 0, rfl, ?_⟩
    show (wr.setCell _ _).cell? _ = _
    rw [World.cell?_of_block (w := wr) (a := ⟨g2, 0 + i, none⟩) (Below.heap_setCell _ _ _ _ (by show g2 ≠ fb; omega))]
    have : wr.cell? ⟨g2, 0 + i, none⟩ = (rks s.data.toList s.size s.size)[i]? := by simp [World.cell?, hk.1]
    rw [this, rks_get _ _ _ (by omega)]
  · refine (Below.setCell (p := ⟨fb, 1, none⟩) (h5.trans ⟨hk.2.os, hk.2.tape, hk.2.output, hk.2.size, fun j hj => hk.2.block j (by omega) (fun e => by injection e with e; omega)⟩) (Nat.le_refl _) _).drew

set_option maxRecDepth 100000 in
set_option maxHeartbeats 2000000 in
theorem addText_some (fb : Nat) (s : ByteArray) (w : World) (h0 : 0 < s.size) (hs : s.size ≤ 1048576) (hb : w.heap[fb]? = some (.cells #[.slice none 0 0, .slice none 0 0] 59 (0, 0))) :
    Calls Tryf.prog 28 #[.pointer (some ⟨fb, 0, none⟩), .string s] w fun e w' => e = .returned (.tuple #[]) ∧ Filled fb s.data.toList w w' := by
  obtain ⟨i0, hi, hz0, hz1, hz2⟩ := info_parts info5
  have HB := hide hb
  clear hb
  go_enter Tryf.func28, Tryf.ntmps28
  go_wp2_with (first
    | (go_at_call 33; refine (room_any fb s.size _ h0 hs (by exact unhide HB)).mono ?_; rintro e w1 ⟨rfl, g1, g2, hne, hg1, hg2, hk1, hk2, hkf, hbel⟩; have c0 : w1.cell? ⟨fb, 0, none⟩ = some (.slice (some ⟨g1, 0, none⟩) 0 s.size) := cell_of2 hkf 0; have hown : w1.ownsRow w.heap.size 5 1 (.slice (some ⟨g1, 0, none⟩) 0 s.size) 0 [] := own_zs hg1 hk1 hs; have HK1 := hide hk1; have HK2 := hide hk2; have HKF := hide hkf; clear hk1 hk2 hkf)
    | (at_builtin; refine Lib.wpList_append_own_string _ rfl _ _ 32 9 rfl w.heap.size 5 i0 Tryf.underlying32 Tryf.underlying9 hi hz0 hz1 hz2 _ _ _ rfl hown s rfl (by unfold maxLen; omega) (by omega) (by have := hbel.size; omega) ?_; intro v' w2 hown2 hgrow2 _; have HG := hide (show w1.grownBy w2 (some g1) from hgrow2); clear hgrow2; obtain ⟨g', cap', rfl⟩ := own_pos hown2 (by omega); have HO := hide hown2; clear hown2; have HF2 := hide (kept2 (unhide HG) (unhide HKF) (by have := lt_fb (unhide HB); omega)); have d0 : w2.cell? ⟨fb, 0, none⟩ = some (.slice (some ⟨g1, 0, none⟩) 0 s.size) := cell_of2 (unhide HF2) 0; have f0 : w2.frozen? ⟨fb, 0, none⟩ = false := frozen_of2 (unhide HF2) 0; clear c0))
  have HS := hide (after_append fb s w w1 w2 g1 g2 g' cap' hne hg1 hg2 (unhide HB) (unhide HK2) (unhide HKF) (unhide HG) (unhide HO) hbel)
  generalize w2.setCell ⟨fb, 0, none⟩ (.slice (some ⟨g', 0, none⟩) s.size cap') = W3 at HS ⊢
  clear HK1 HK2 HKF HG HO HF2 d0 f0 hown hbel hne hg1 hi hz0 hz1 hz2
  obtain ⟨k3f, k32, hba, hf2, hb3⟩ := unhide HS
  have c0 : W3.cell? ⟨fb, 0, none⟩ = some (.slice (some ⟨g', 0, none⟩) s.size cap') := cell_of2 k3f 0
  have c1 : W3.cell? ⟨fb, 1, none⟩ = some (.slice (some ⟨g2, 0, none⟩) 0 s.size) := cell_of2 k3f 1
  clear k3f k32 hba hb3
  go_quiet (fail)
  go_wp2
  go_loopw [37] (fun i wr => ∃ k : Nat, k ≤ s.size ∧ i = .int .i64 k ∧ Ranked s.data.toList s.size g2 W3 k wr) (fun i _ => s.size - (intOf i).toNat)
  case atStart => exact ⟨0, Nat.zero_le _, rfl, by rw [Ranked, rks_zero]; exact ⟨(unhide HS).2.1, rfl, rfl, rfl, Nat.le_refl _, fun _ _ _ => rfl⟩⟩
  case round =>
    obtain ⟨k, hk, rfl, hrk⟩ := hrel
    have HR := hide hrk
    clear hrk
    by_cases hlt : k < s.size
    · have hlt' : k < s.data.toList.length := by simpa using hlt
      obtain ⟨cc, ff⟩ := (unhide HR).cell hlt
      clear c0 c1
      by_cases hz : k = 0
      · subst hz
        have hrk : rk s.data.toList 0 = 4 := rk_none _ 0 hlt' (.inl rfl)
        have HK := hide hrk
        clear hrk
        go_wp2
        go_roundw
        case rel => exact ⟨1, by omega, by go_num, (unhide HR).step 4 (unhide HK)⟩
        case measure => simp [intOf]; omega
      · have hz' : 0 < k := by omega
        cases hw : wsp s[k] with
        | false =>
          have hrk : rk s.data.toList k = 4 := rk_none _ k hlt' (.inr hw)
          have HK := hide hrk
          clear hrk
          go_wp2_with (go_at_call 34; refine (isWSP_any _ _).mono ?_; rintro e w' ⟨rfl, rfl⟩)
          go_roundw
          case rel => exact ⟨k + 1, by omega, by go_num, (unhide HR).step 4 (unhide HK)⟩
          case measure => simp [intOf]; omega
        | true =>
          by_cases hk1 : k + 1 < s.size
          · cases hw2 : wsp s[k + 1] with
            | true =>
              have hrk : rk s.data.toList k = 2 := rk_run _ k (by simpa using hk1) hz' hw hw2
              have HK := hide hrk
              clear hrk
              go_wp2_with (go_at_call 34; refine (isWSP_any _ _).mono ?_; rintro e w' ⟨rfl, rfl⟩)
              go_roundw
              case rel => exact ⟨k + 1, by omega, by go_num, (unhide HR).step 2 (unhide HK)⟩
              case measure => simp [intOf]; omega
            | false =>
              have hrk : rk s.data.toList k = 1 := rk_last _ k hlt' hz' hw (fun _ => hw2)
              have HK := hide hrk
              clear hrk
              go_wp2_with (go_at_call 34; refine (isWSP_any _ _).mono ?_; rintro e w' ⟨rfl, rfl⟩)
              go_roundw
              case rel => exact ⟨k + 1, by omega, by go_num, (unhide HR).step 1 (unhide HK)⟩
              case measure => simp [intOf]; omega
          · have hrk : rk s.data.toList k = 1 := rk_last _ k hlt' hz' hw (fun h => absurd (by simpa using h) hk1)
            have HK := hide hrk
            clear hrk
            go_wp2_with (go_at_call 34; refine (isWSP_any _ _).mono ?_; rintro e w' ⟨rfl, rfl⟩)
            go_roundw
            case rel => exact ⟨k + 1, by omega, by go_num, (unhide HR).step 1 (unhide HK)⟩
            case measure => simp [intOf]; omega
    · obtain rfl : k = s.size := by omega
      have hkf := kept2 (unhide HR).2 (unhide HS).1 (by omega)
      have d0 : wr.cell? ⟨fb, 0, none⟩ = some (.slice (some ⟨g', 0, none⟩) s.size cap') := cell_of2 hkf 0
      have d1 : wr.cell? ⟨fb, 1, none⟩ = some (.slice (some ⟨g2, 0, none⟩) 0 s.size) := cell_of2 hkf 1
      have e1 : wr.frozen? ⟨fb, 1, none⟩ = false := frozen_of2 hkf 1
      clear c0 c1 hkf
      go_wp2
      go_region
      all_goals go_wp2
      all_goals go_end0
      all_goals exact ⟨rfl, filled_end (unhide HS) (unhide HR)⟩

theorem filled_none (fb : Nat) (w W3 : World) (q : Nat) (h : W3.heap[fb]? = some (.cells #[.slice none 0 0, .slice none 0 0] 59 (0, 0))) (hb : Below fb w W3) :
    Filled fb [] w ((W3.drewN q).setCell ⟨fb, 1, none⟩ (.slice none 0 0)) := by
  have hf : ((W3.drewN q).setCell ⟨fb, 1, none⟩ (.slice none 0 0)).heap[fb]? = some (.cells #[.slice none 0 0, .slice none 0 0] 59 (0, 0)) := by
    simp [World.setCell, Array.getElem?_modify, h]
  exact ⟨none, 0, none, 0, cell_of2 hf 0, BA.nil _ _, cell_of2 hf 1, (fun i hi => absurd hi (Nat.not_lt_zero i)), (below_drewN hb q).setCell (p := ⟨fb, 1, none⟩) (Nat.le_refl _) _⟩
theorem fresh_kept (fb : Nat) (w : World) (q : Nat) (hb : w.heap[fb]? = some (.cells #[.slice none 0 0, .slice none 0 0] 59 (0, 0))) :
    ((w.drewN q).setCell ⟨fb, 0, none⟩ (.slice none 0 0)).heap[fb]? = some (.cells #[.slice none 0 0, .slice none 0 0] 59 (0, 0)) ∧ Below fb w ((w.drewN q).setCell ⟨fb, 0, none⟩ (.slice none 0 0)) := by
  refine ⟨?_, (below_drewN (Below.refl fb w) q).setCell (p := ⟨fb, 0, none⟩) (Nat.le_refl _) _⟩
  simp [World.setCell, Array.getElem?_modify, hb]

set_option maxRecDepth 100000 in
set_option maxHeartbeats 2000000 in
theorem addText_none (fb : Nat) (w : World) (hb : w.heap[fb]? = some (.cells #[.slice none 0 0, .slice none 0 0] 59 (0, 0))) :
    Calls Tryf.prog 28 #[.pointer (some ⟨fb, 0, none⟩), .string ⟨#[]⟩] w fun e w' => e = .returned (.tuple #[]) ∧ Filled fb [] w w' := by
  have HB := hide hb
  have c0' : w.cell? ⟨fb, 0, none⟩ = some (.slice none 0 0) := cell_of2 hb 0
  have f0' : w.frozen? ⟨fb, 0, none⟩ = false := frozen_of2 hb 0
  clear hb
  go_enter Tryf.func28, Tryf.ntmps28
  go_wp2_with (go_at_call 33; refine (room_none fb _ (by exact unhide HB)).mono ?_; rintro e w1 ⟨rfl, q, rfl⟩)
  have HW := hide (fresh_kept fb w q (unhide HB))
  generalize (w.drewN q).setCell ⟨fb, 0, none⟩ (.slice none 0 0) = W3 at HW ⊢
  obtain ⟨k3, b3⟩ := unhide HW
  have c0 : W3.cell? ⟨fb, 0, none⟩ = some (.slice none 0 0) := cell_of2 k3 0
  have c1 : W3.cell? ⟨fb, 1, none⟩ = some (.slice none 0 0) := cell_of2 k3 1
  have f1 : W3.frozen? ⟨fb, 1, none⟩ = false := frozen_of2 k3 1
  clear k3 b3
  go_quiet (fail)
  go_wp2
  refine wp_loop_rounds 1 ?_
  rw [rounds_succ]
  go_wp2
  go_region
  all_goals go_wp2
  all_goals go_end0
  all_goals exact ⟨rfl, filled_none fb w W3 _ (unhide HW).1 (unhide HW).2⟩

theorem addText_any (fb : Nat) (s : ByteArray) (w : World) (hs : s.size ≤ 1048576) (hb : w.heap[fb]? = some (.cells #[.slice none 0 0, .slice none 0 0] 59 (0, 0))) :
    Calls Tryf.prog 28 #[.pointer (some ⟨fb, 0, none⟩), .string s] w fun e w' => e = .returned (.tuple #[]) ∧ Filled fb s.data.toList w w' := by
  rcases Nat.eq_zero_or_pos s.size with h | h
  · obtain rfl : s = ⟨#[]⟩ := by
      cases s with
      | mk d => simp at h; rw [h]; rfl
    exact addText_none fb w hb
  · exact addText_some fb s w h hs hb
end Go.Proofs.Qxb6612277aFmt
