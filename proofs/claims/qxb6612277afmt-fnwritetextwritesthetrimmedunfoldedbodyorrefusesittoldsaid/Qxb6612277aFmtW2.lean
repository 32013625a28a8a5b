/-
  Walks: wtUnfoldTrim.
-/
import Derived.Test.Qxb6612277aFmtW1
import Derived.Test.Qxb6612277aFmtPlain
import Derived.Lib.UnsafeStr
namespace Go.Proofs.Qxb6612277aFmt
open Go.RowKit

theorem info5 : (Tryf.prog.info? 5).map (fun i => (i.zero, i.size, i.bytes)) = some (some (.int .u8 0), 1, 1) := by kernel_rfl

theorem byteCells_len (l : List UInt8) : (Lib.byteCells l).length = l.length := by simp [Lib.byteCells]
theorem byteCells_get (l : List UInt8) (i : Nat) (h : i < l.length) : (Lib.byteCells l)[i]? = some (.int .u8 (l[i].toNat : Int)) := by
  simp [Lib.byteCells, List.getElem?_map, List.getElem?_eq_getElem h]
theorem byteCells_snoc (l : List UInt8) (c : UInt8) : Lib.byteCells l ++ [.int .u8 (c.toNat : Int)] = Lib.byteCells (l ++ [c]) := by simp [Lib.byteCells]

/-- What owns a row of bytes holds them. -/
theorem BA_of_owns {w : World} {B : Nat} {v : Value} {l : List UInt8} (h : w.ownsRow B 5 1 v l.length (Lib.byteCells l)) :
    ∃ p cap, v = .slice p l.length cap ∧ l.length ≤ cap ∧ BA w p l ∧ (p = none → cap = 0) ∧ (∀ a, p = some a → a.off = 0 ∧ a.spot = none ∧ B ≤ a.block ∧ a.block < w.heap.size) := by
  have h' := h
  rcases h.2 with ⟨hv, hn⟩ | ⟨g, cap, cur, hv, hb, hg, hnc, hm, hs, ht⟩
  · refine ⟨none, 0, by rw [hv, hn], by omega, ?_, fun _ => rfl, fun _ e => by cases e⟩
    intro i hi; omega
  · subst hv
    refine ⟨some ⟨g, 0, none⟩, cap, rfl, hnc, ?_, (fun e => by cases e), ?_⟩
    · intro i hi
      refine ⟨_, _, rfl, ?_⟩
      have := h'.cellAt i (by omega)
      rw [byteCells_get l i hi] at this
      simpa using this
    · intro a e
      cases e
      refine ⟨rfl, rfl, hb, ?_⟩
      rcases Nat.lt_or_ge g w.heap.size with h2 | h2
      · exact h2
      · rw [Array.getElem?_eq_none h2] at hg; cases hg

theorem byte_eq {c : UInt8} {n : Nat} (hn : n < 256) (h : (c.toNat : Int) = n) : c = UInt8.ofNat n := by
  apply UInt8.toNat_inj.1; simp; omega

theorem ofB {p : Prop} (h : p) : p := h

theorem BA_cut {w : World} {b o : Nat} {l : List UInt8} (h : BA w (some ⟨b, o, none⟩) l) (lo j : Nat) : BA w (some ⟨b, o + lo, none⟩) ((l.take j).drop lo) := by
  refine BA.mk fun i hi => ?_
  have hi' : lo + i < l.length := by simp at hi; omega
  have := h.cell (lo + i) hi'
  rw [Nat.add_assoc]
  simpa using this

theorem ret_slice {q : Option Addr} {m m' cap : Nat} (h : m = m') : Ending.returned (.slice q m cap) = .returned (.slice q m' cap) := by rw [h]

/-- A slice of the bytes t comes back; nothing old has turned. -/
def GivesBytes (t : List UInt8) (w : World) (e : Ending) (w' : World) : Prop :=
  ∃ q cap, e = .returned (.slice q t.length cap) ∧ BA w' q t ∧ Below w.heap.size w w'

set_option maxRecDepth 100000 in
set_option maxHeartbeats 1000000 in
theorem wtUnfoldTrim_any (p : Option Addr) (n c : Nat) (l : List UInt8) (w : World) (hl : l.length = n) (hn : n ≤ 1048576) (hc : BA w p l) :
    Calls Tryf.prog 12 #[.slice p n c] w (GivesBytes (trimR (trimL (unf l))) w) := by
  obtain ⟨i0, hi, hz0, hz1, hz2⟩ := info_parts info5
  go_enter Tryf.func12, Tryf.ntmps12
  go_wp2
  go_loopw [3, 4] (fun v i wr => ∃ (k : Nat) (acc : List UInt8), k ≤ n ∧ i = .int .i64 k ∧ acc.length ≤ k ∧ unf l = acc ++ unf (l.drop k) ∧ wr.ownsRow w.heap.size 5 1 v acc.length (Lib.byteCells acc) ∧ Below w.heap.size w wr)
    (fun _ i _ => n - (intOf i).toNat)
  case atStart => exact ⟨0, [], Nat.zero_le _, rfl, by simp, by simp, World.ownsRow_nil _ _ _ _, Below.refl _ _⟩
  case round =>
    obtain ⟨k, acc, hk, rfl, hal, hun, hown, hbel⟩ := hrel
    have HU := hide hun
    clear hun
    by_cases hlt : k < n
    · obtain ⟨b, o, rfl, hcell0⟩ := hc k (by omega)
      have hcell : wr.cell? ⟨b, o + k, none⟩ = some (.int .u8 (l[k].toNat : Int)) := (hbel.cell (World.block_lt_of_cell? w _ hcell0)).trans hcell0
      have hcell2 : (h2 : k + 1 < n) → wr.cell? ⟨b, o + (k + 1), none⟩ = some (.int .u8 (l[k + 1].toNat : Int)) := fun h2 => by
        have h := hc.cell (k + 1) (by omega)
        exact (hbel.cell (World.block_lt_of_cell? w _ h)).trans h
      clear hc hcell0
      have hmore : ∀ (v' : Value) (w1 : World), w1.ownsRow w.heap.size 5 1 v' (acc.length + 1) (Lib.byteCells acc ++ [.int .u8 (l[k].toNat : Int)]) → (wr.alloc (.cells #[.int .u8 (l[k].toNat : Int)] 5)).grownBy w1 u3.ownBlock →
          w1.ownsRow w.heap.size 5 1 v' (acc ++ [l[k]]).length (Lib.byteCells (acc ++ [l[k]])) ∧ Below w.heap.size w w1 := fun v' w1 h1 h2 => by
        rw [byteCells_snoc] at h1
        refine ⟨by simpa using h1, (hbel.alloc hbel.size _).grown h2 (by simp; have := hbel.size; omega) ?_⟩
        intro j hj
        exact (hown.lt j hj).1
      have HM := hide hmore
      clear hmore
      rcases (show (l[k].toNat : Int) = 10 ∨ ((l[k].toNat : Int) = 13 ∧ ∃ h2 : k + 1 < n, (l[k + 1].toNat : Int) = 10) ∨ (¬ (l[k].toNat : Int) = 10 ∧ ¬ ((l[k].toNat : Int) = 13 ∧ ∃ h2 : k + 1 < n, (l[k + 1].toNat : Int) = 10)) from by
        by_cases h1 : (l[k].toNat : Int) = 10
        · exact .inl h1
        · by_cases h2 : ((l[k].toNat : Int) = 13 ∧ ∃ h2 : k + 1 < n, (l[k + 1].toNat : Int) = 10)
          · exact .inr (.inl h2)
          · exact .inr (.inr ⟨h1, h2⟩)) with h | h | h
      · have hu : unf l = acc ++ unf (l.drop (k + 1)) := by
          rw [← unf_10 l k (by omega) (byte_eq (n := 10) (by omega) h)]; exact unhide HU
        have HU2 := hide hu
        clear hu HU hcell2
        have hb : ((l[k].toNat : Int) == 10) = true := by simp [h]
        have HH := hide h
        clear h
        go_wp2
        go_roundw
        case rel => exact ⟨k + 1, acc, by omega, by go_num, by omega, unhide HU2, hown, hbel⟩
        case measure => simp [intOf]; omega
      · obtain ⟨h13, h2, h10⟩ := h
        have hu : unf l = acc ++ unf (l.drop (k + 1)) := by
          rw [← unf_13 l k (by omega) (byte_eq (n := 13) (by omega) h13) (by omega) (byte_eq (n := 10) (by omega) h10)]; exact unhide HU
        have HU2 := hide hu
        have hcell3 := hcell2 h2
        clear hu HU hcell2
        have hb1 : ((l[k].toNat : Int) == 10) = false := by simp [h13]
        have hb : ((l[k].toNat : Int) == 13) = true := by simp [h13]
        have hb2 : ((l[k + 1].toNat : Int) == 10) = true := by simp [h10]
        have HH := hide h13
        have HH2 := hide h10
        clear h13 h10
        go_wp2
        go_roundw
        case rel => exact ⟨k + 1, acc, by omega, by go_num, by omega, unhide HU2, hown, hbel⟩
        case measure => simp [intOf]; omega
      · obtain ⟨h10, hno⟩ := h
        have hu : unf l = (acc ++ [l[k]]) ++ unf (l.drop (k + 1)) := by
          rw [List.append_assoc, List.singleton_append, ← unf_else l k (by omega) (fun e => h10 (by rw [e]; rfl)) (fun e => hno ⟨by rw [e.1]; rfl, by have := (List.getElem?_eq_some_iff.1 e.2).1; omega, by rw [(List.getElem?_eq_some_iff.1 e.2).2]; rfl⟩)]; exact unhide HU
        have HU2 := hide hu
        clear hu HU
        have hb1 : ((l[k].toNat : Int) == 10) = false := by simp [h10]
        have hst : (((l[k].toNat : Int) == 13) = false) ∨ (((l[k].toNat : Int) == 13) = true ∧ n ≤ k + 1) ∨ (((l[k].toNat : Int) == 13) = true ∧ ∃ h2 : k + 1 < n, ((l[k + 1].toNat : Int) == 10) = false) := by
          by_cases h13 : (l[k].toNat : Int) = 13
          · by_cases h2 : k + 1 < n
            · refine .inr (.inr ⟨by simp [h13], h2, ?_⟩)
              rw [beq_eq_false_iff_ne]
              intro e
              exact hno ⟨h13, h2, e⟩
            · exact .inr (.inl ⟨by simp [h13], by omega⟩)
          · exact .inl (by simp [h13])
        clear h10 hno
        rcases hst with hs | hs | ⟨hs, h2, h3⟩
        · clear hcell2
          go_wp2_with (at_builtin; refine wpList_append_own _ rfl _ _ 32 rfl w.heap.size 5 i0 (.int .u8 0) 1 1 Tryf.underlying32 hi hz0 hz1 hz2 rfl (by decide) _ _ _ rfl (hown.alloc _) ⟨wr.heap.size, 0, none⟩ 1 1 [.int .u8 (l[k].toNat : Int)] rfl rfl (cell_one_new _ _ _) (by simp [Value.oneCell']) (by unfold maxLen; omega) (by omega) (by have := hbel.size; simp; omega) ?_; intro v' w1 hown' hgrow _; have HR := hide (unhide HM v' w1 hown' hgrow); clear hown' hgrow)
          go_roundw
          case rel => exact ⟨k + 1, acc ++ [l[k]], by omega, by go_num, by simp; omega, unhide HU2, (unhide HR).1, (unhide HR).2⟩
          case measure => simp [intOf]; omega
        · clear hcell2
          go_wp2_with (at_builtin; refine wpList_append_own _ rfl _ _ 32 rfl w.heap.size 5 i0 (.int .u8 0) 1 1 Tryf.underlying32 hi hz0 hz1 hz2 rfl (by decide) _ _ _ rfl (hown.alloc _) ⟨wr.heap.size, 0, none⟩ 1 1 [.int .u8 (l[k].toNat : Int)] rfl rfl (cell_one_new _ _ _) (by simp [Value.oneCell']) (by unfold maxLen; omega) (by omega) (by have := hbel.size; simp; omega) ?_; intro v' w1 hown' hgrow _; have HR := hide (unhide HM v' w1 hown' hgrow); clear hown' hgrow)
          go_roundw
          case rel => exact ⟨k + 1, acc ++ [l[k]], by omega, by go_num, by simp; omega, unhide HU2, (unhide HR).1, (unhide HR).2⟩
          case measure => simp [intOf]; omega
        · have hcell3 := hcell2 h2
          clear hcell2
          go_wp2_with (at_builtin; refine wpList_append_own _ rfl _ _ 32 rfl w.heap.size 5 i0 (.int .u8 0) 1 1 Tryf.underlying32 hi hz0 hz1 hz2 rfl (by decide) _ _ _ rfl (hown.alloc _) ⟨wr.heap.size, 0, none⟩ 1 1 [.int .u8 (l[k].toNat : Int)] rfl rfl (cell_one_new _ _ _) (by simp [Value.oneCell']) (by unfold maxLen; omega) (by omega) (by have := hbel.size; simp; omega) ?_; intro v' w1 hown' hgrow _; have HR := hide (unhide HM v' w1 hown' hgrow); clear hown' hgrow)
          go_roundw
          case rel => exact ⟨k + 1, acc ++ [l[k]], by omega, by go_num, by simp; omega, unhide HU2, (unhide HR).1, (unhide HR).2⟩
          case measure => simp [intOf]; omega
    · obtain rfl : k = n := by omega
      have hacc : unf l = acc := by
        have := unhide HU
        rw [List.drop_eq_nil_of_le (by omega)] at this
        simpa [unf] using this
      have HA := hide hacc
      clear hlt HU hacc hc
      obtain ⟨q, cap, rfl, hcap, hba, hq0, hqa⟩ := BA_of_owns hown
      clear hown
      go_wp2
      go_loop [6] (fun i => ∃ lo : Nat, lo ≤ acc.length ∧ i = .int .i64 lo ∧ trimL (acc.drop lo) = trimL acc) (fun i => acc.length - (intOf i).toNat)
      case atStart => exact ⟨0, Nat.zero_le _, rfl, by simp⟩
      case round =>
        obtain ⟨lo, hlo, rfl, htl⟩ := hrel
        have HT := hide htl
        clear htl
        by_cases hlt : lo < acc.length ∧ wsp (acc.getD lo 0) = true
        · obtain ⟨hlt, hws⟩ := hlt
          obtain ⟨b, o, rfl, hcell⟩ := hba lo hlt
          have hws' : wsp acc[lo] = true := by simpa [List.getD, List.getElem?_eq_getElem hlt] using hws
          clear hws hba
          go_wp2_with (go_at_call 20; refine (zzWSP_any _ _).mono ?_; rintro e w' ⟨rfl, rfl⟩)
          go_round
          case rel => exact ⟨lo + 1, by omega, by go_num, by rw [trimL_step acc lo hlt hws']; exact unhide HT⟩
          case measure => simp [intOf]; omega
        · have hfin : trimL acc = acc.drop lo := by
            rw [← unhide HT]
            by_cases h : lo < acc.length
            · exact trimL_stop acc lo h (by simpa [List.getD, List.getElem?_eq_getElem h, h] using hlt)
            · exact trimL_end acc lo (by omega)
          have HF := hide hfin
          clear hfin HT
          have HBA := hide hba
          by_cases h : lo < acc.length
          · have hws : wsp acc[lo] = false := by simpa [List.getD, List.getElem?_eq_getElem h, h] using hlt
            obtain ⟨b, o, rfl, hcell⟩ := hba lo h
            clear hlt
            go_wp2_with (go_at_call 20; refine (zzWSP_any _ _).mono ?_; rintro e w' ⟨rfl, rfl⟩)
            go_loop [7] (fun i => ∃ j : Nat, lo ≤ j ∧ j ≤ acc.length ∧ i = .int .i64 j ∧ trimR ((acc.take j).drop lo) = trimR (trimL acc)) (fun i => (intOf i).toNat)
            case atStart => exact ⟨acc.length, by omega, by omega, rfl, by rw [unhide HF, List.take_of_length_le (Nat.le_refl _)]⟩
            case round =>
              obtain ⟨j, hlj, hj, rfl, htr⟩ := hrel
              have HT := hide htr
              clear htr
              by_cases hjl : lo = j
              · subst hjl
                clear hba hcell
                have hfin : trimR (trimL (unf l)) = [] := by
                  rw [unhide HA, ← unhide HT, List.drop_eq_nil_of_le (by simp; omega)]; rfl
                have HX := hide hfin
                clear hfin
                go_wp2
                go_ret
                rw [unhide HX]
                exact ⟨_, _, rfl, BA.nil _ _, hbel⟩
              · obtain ⟨j, rfl⟩ : ∃ j', j = j' + 1 := ⟨j - 1, by omega⟩
                have hcj : wr.cell? ⟨b, o + j, none⟩ = some (.int .u8 (acc[j].toNat : Int)) := hba.cell j (by omega)
                clear hba hcell
                cases hwj : wsp acc[j] with
                | true =>
                  go_wp2_with (go_at_call 20; refine (zzWSP_any _ _).mono ?_; rintro e w' ⟨rfl, rfl⟩)
                  go_round
                  case rel => exact ⟨j, by omega, by omega, by go_num, by rw [← trimR_step acc lo j (by omega) (by omega) hwj]; exact unhide HT⟩
                  case measure => simp [intOf]
                | false =>
                  go_wp2_with (go_at_call 20; refine (zzWSP_any _ _).mono ?_; rintro e w' ⟨rfl, rfl⟩)
                  have hfin : trimR (trimL (unf l)) = (acc.take (j + 1)).drop lo := by
                    rw [unhide HA, ← unhide HT]
                    exact trimR_stop acc lo j (by omega) (by omega) hwj
                  go_ret
                  rw [hfin]
                  exact ⟨some ⟨b, o + lo, none⟩, cap - lo, ret_slice (by simp; omega), BA_cut (unhide HBA) lo (j + 1), hbel⟩
          · obtain rfl : lo = acc.length := by omega
            have hfin : trimR (trimL (unf l)) = [] := by
              rw [unhide HA, unhide HF, List.drop_eq_nil_of_le (by simp)]; rfl
            have HX := hide hfin
            clear hlt hba hfin
            go_wp2
            refine wp_loop_rounds 1 ?_
            rw [rounds_succ]
            go_wp2
            · go_ret
              rw [unhide HX]
              exact ⟨_, _, rfl, BA.nil _ _, hbel⟩
            · go_ret
              rw [unhide HX]
              exact ⟨_, _, rfl, BA.nil _ _, hbel⟩
end Go.Proofs.Qxb6612277aFmt
