import Derived.Test.Qxb6613649aDoorW9
namespace Go.Proofs.Qxb6613649aDoor
open Go.RowKit

theorem shape_of {w : World} {B n : Nat} {e : TypeId} {s : Nat} {v : Value} {xs : List Value} (h : w.ownsRow B e s v n xs) : ∃ x c, v = .slice x n c := by
  rcases h.2 with ⟨h1, rfl⟩ | ⟨g, cap, cur, h3, _⟩
  · exact ⟨_, _, h1⟩
  · exact ⟨_, _, h3⟩

set_option maxRecDepth 100000 in
theorem tvars_any (B : Nat) (v : Value) (ln : Int) (ps : List Pt) (w : World) (hown : w.ownsRow B 62 2 v ps.length (ptCells ps)) (hl : ps.length ≤ 4194304) :
    Calls Tryd.prog 12 #[.agg #[v, .int .i64 ln]] w fun e w' => ∃ u, e = .returned u ∧ NRow w.heap.size u (varsOf ps) w' ∧ Below w.heap.size w w' := by
  obtain ⟨vx, vc, rfl⟩ := shape_of hown
  have HO := hide ((hown.alloc (.cells #[.slice vx ps.length vc, .int .i64 ln] 31)).alloc (.cells #[.slice vx ps.length vc, .int .i64 ln] 31))
  have HN : Hid (((w.alloc (.cells #[.slice vx ps.length vc, .int .i64 ln] 31)).alloc (.cells #[.slice vx ps.length vc, .int .i64 ln] 31)).heap[w.heap.size + 1]? = some (.cells #[.slice vx ps.length vc, .int .i64 ln] 31 (0, 0))) := hide (by
    have := heap_alloc_new (w.alloc (.cells #[.slice vx ps.length vc, .int .i64 ln] 31)) (.cells #[.slice vx ps.length vc, .int .i64 ln] 31)
    rwa [World.size_alloc] at this)
  clear hown
  go_enter Tryd.func12, Tryd.ntmps12
  go_wp2_with fail
  refine (vars_any B (w.heap.size + 1) _ ln ps _ (by exact unhide HN) (by exact unhide HO) hl).mono ?_
  rintro e w' ⟨u, rfl, hn, hb⟩
  simp only [World.size_alloc] at hn hb
  have HN := hide hn
  have HB := hide hb
  clear hn hb
  go_wp2_with fail
  go_ret
  refine ⟨_, rfl, ?_, ?_⟩
  · have h := unhide HN
    obtain ⟨h1, h2⟩ := h
    refine ⟨h1, ?_⟩
    rcases h2 with h2 | ⟨g, cap, cur, h3, h4, h5, h6⟩
    · exact .inl h2
    · exact .inr ⟨g, cap, cur, h3, by omega, h5, h6⟩
  · exact (((Below.refl w.heap.size w).alloc (Nat.le_refl _) _).alloc (by simp) _).trans ((unhide HB).mono (by omega))

theorem esc_len : ∀ l : List UInt8, l.length ≤ (esc l).length
  | [] => Nat.le_refl _
  | [_] => Nat.le_refl _
  | c :: d :: t => by
    by_cases h : c = 36 ∧ d = 36
    · have := esc_len t
      rw [esc, if_pos h]
      simp
      omega
    · have := esc_len (d :: t)
      rw [esc_two _ _ _ h]
      simpa using this
theorem rend_step (ps : List Pt) (k : Nat) (hk : k < ps.length) : rendAll (ps.take (k + 1)) = rendAll (ps.take k) ++ rend ps[k] := by
  rw [List.take_succ_eq_append_getElem hk, rendAll_append, rendAll_one]
theorem rend_le (ps : List Pt) (k : Nat) : (rendAll (ps.take k)).length ≤ (rendAll ps).length := by
  conv => rhs; rw [← List.take_append_drop k ps]
  rw [rendAll_append, List.length_append]
  omega

theorem replaceAll_any (l : List UInt8) (m : Int) (w : World) (hl : l.length ≤ 4194304) (hm : w.cell? ⟨1, 0, none⟩ = some (.int .i64 m)) :
    Calls Tryd.prog 19 #[.string ⟨l.toArray⟩, .string ⟨#[36, 36]⟩, .string ⟨#[36, 36, 36, 36]⟩] w fun e w' => e = .returned (.string ⟨(esc l).toArray⟩) ∧ Below w.heap.size w w' := by
  have hsz : (⟨l.toArray⟩ : ByteArray).size = l.length := by show l.toArray.size = _; simp
  have h := Tryd.strings_ReplaceAll ⟨l.toArray⟩ ⟨#[36, 36]⟩ ⟨#[36, 36, 36, 36]⟩ m w (by rw [hsz]; omega) hm (by decide) (by
    have := Lib.countB_le ⟨#[36, 36]⟩ (by decide) _ ⟨l.toArray⟩ (Nat.le_refl _)
    rw [hsz] at this ⊢
    have h4 : (⟨#[36, 36, 36, 36]⟩ : ByteArray).size = 4 := rfl
    rw [h4]
    omega)
  have e : Lib.replaceAll (⟨l.toArray⟩ : ByteArray).data.toList (⟨#[36, 36]⟩ : ByteArray).data.toList (⟨#[36, 36, 36, 36]⟩ : ByteArray).data.toList = esc l := replaceAll_D l
  rw [e] at h
  exact h

theorem cat3 (l : List UInt8) : (⟨#[36, 36]⟩ : ByteArray) ++ ⟨l.toArray⟩ ++ ⟨#[36, 36]⟩ = ⟨(D ++ l ++ D).toArray⟩ := by
  apply ByteArray.ext
  simp [D]

/-- The builder of String. -/
theorem sbuild_any (n b : Nat) (l t : List UInt8) (w : World) (h : Lib.IsBuilderF 60 5 n b (Lib.byteCells l) w) (hl : l.length + t.length ≤ 8388608) (hn : n ≤ w.heap.size) :
    Calls Tryd.prog 18 #[.pointer (some ⟨b, 0, none⟩), .string ⟨t.toArray⟩] w fun e w' => e = .returned (.tuple #[.int .i64 t.length, .nilIface]) ∧ Lib.IsBuilderF 60 5 n b (Lib.byteCells (l ++ t)) w' ∧ Below n w w' := by
  have hsz : (⟨t.toArray⟩ : ByteArray).size = t.length := by show t.toArray.size = _; simp
  refine (Tryd.Builder_WriteString_k2 n b (Lib.byteCells l) ⟨t.toArray⟩ w h (by rw [byteCells_len, hsz]; omega) hn).mono ?_
  rintro e w' ⟨rfl, h1, h2, h3⟩
  rw [byteCells_str] at h1
  rw [hsz]
  exact ⟨rfl, .inr h1, h2⟩
theorem builder_below {n b B : Nat} {bs : List Value} {w w' : World} (h : Lib.IsBuilderF 60 5 n b bs w) (hb : Below B w w') (hB : w.heap.size ≤ B) : Lib.IsBuilderF 60 5 n b bs w' := by
  refine builder_move h ?_
  intro k c t fz hc _
  rw [hb.block k (Nat.lt_of_lt_of_le (Array.getElem?_eq_some_iff.1 hc).1 hB)]
  exact hc

set_option maxRecDepth 100000 in
set_option maxHeartbeats 2000000 in
theorem tstring_any (B : Nat) (v : Value) (ln m : Int) (ps : List Pt) (w : World) (hown : w.ownsRow B 62 2 v ps.length (ptCells ps)) (hl : ps.length ≤ 4194304) (hr : (rendAll ps).length ≤ 4194304) (hm : w.cell? ⟨1, 0, none⟩ = some (.int .i64 m)) :
    Calls Tryd.prog 13 #[.agg #[v, .int .i64 ln]] w fun e w' => e = .returned (.string ⟨(rendAll ps).toArray⟩) ∧ Below w.heap.size w w' := by
  obtain ⟨vx, vc, rfl⟩ := shape_of hown
  have hml : 1 < w.heap.size := World.block_lt_of_cell? w ⟨1, 0, none⟩ hm
  have HM := hide hm
  have HO := hide hown
  have hb0 : Below w.heap.size w ((w.alloc (.cells #[.slice vx ps.length vc, .int .i64 ln] 31)).alloc (.cells #[.pointer none, .slice none 0 0] 60)) := ((Below.refl _ _).alloc (Nat.le_refl _) _).alloc (by simp) _
  have HB0 := hide hb0
  have HBd : Hid (Lib.IsBuilderF 60 5 w.heap.size (w.heap.size + 1) (Lib.byteCells []) ((w.alloc (.cells #[.slice vx ps.length vc, .int .i64 ln] 31)).alloc (.cells #[.pointer none, .slice none 0 0] 60))) := hide (.inl ⟨by omega, .slice none 0 0, by
    have := heap_alloc_new (w.alloc (.cells #[.slice vx ps.length vc, .int .i64 ln] 31)) (.cells #[.pointer none, .slice none 0 0] 60)
    rwa [World.size_alloc] at this, World.ownsRowF_nil _ _ _ _, by simp [Value.ownBlock]⟩)
  clear hown hm hb0
  go_enter Tryd.func13, Tryd.ntmps13
  go_wp2_with fail
  go_loopw [9] (fun i wr => ∃ k : Nat, k ≤ ps.length ∧ i = .int .i64 k ∧ Lib.IsBuilderF 60 5 w.heap.size (w.heap.size + 1) (Lib.byteCells (rendAll (ps.take k))) wr ∧ Below w.heap.size w wr) (fun i _ => ps.length - (intOf i).toNat)
  case atStart => exact ⟨0, Nat.zero_le _, rfl, unhide HBd, unhide HB0⟩
  case round =>
    obtain ⟨k, hk, rfl, hbd, hbe⟩ := hrel
    by_cases hlt : k < ps.length
    · have hki : (k : Int) < (ps.length : Int) := by omega
      have hpr := own_below (unhide HO) hbe (Nat.le_refl _)
      obtain ⟨g, rfl⟩ : ∃ g, vx = some ⟨g, 0, none⟩ := by
        rcases hpr.2 with ⟨_, h2⟩ | ⟨g, cap, cur, h3, _⟩
        · omega
        · cases h3; exact ⟨g, rfl⟩
      obtain ⟨d0, d1⟩ := part_cells hpr k hlt
      have hg : g < wr.heap.size := World.block_lt_of_cell? wr ⟨g, k * 2, none⟩ d0
      have hvc : ps.length ≤ vc := by
        rcases hpr.2 with ⟨h1, _⟩ | ⟨g', cap, cur, h3, _, _, h4, _⟩
        · cases h1
        · cases h3; exact h4
      have hst := rend_step ps k hlt
      have hle := rend_le ps (k + 1)
      obtain ⟨tx, vr, hpk⟩ : ∃ tx vr, ps[k] = (tx, vr) := ⟨_, _, rfl⟩
      rw [hpk] at d0 d1 hst
      rw [hst, List.length_append] at hle
      generalize rendAll (ps.take k) = acc at *
      have hsz := hbe.size
      have hal := (Below.refl wr.heap.size wr).alloc (Nat.le_refl _) (.cells #[.string ⟨tx.toArray⟩, .string ⟨vr.toArray⟩] 62)
      have HSt := hide hst
      have HBd1 := hide (builder_below hbd hal (Nat.le_refl _))
      have HBe1 := hide (hbe.trans (hal.mono hsz))
      have HM1 := hide ((hal.cell (p := ⟨1, 0, none⟩) (by show 1 < wr.heap.size; omega)).trans ((hbe.cell (p := ⟨1, 0, none⟩) (by exact hml)).trans (unhide HM)))
      clear hst hbd hbe hal hpr hpk
      cases vr with
      | nil =>
        have hre : rend (tx, []) = esc tx := rfl
        rw [hre] at hle
        have htl := esc_len tx
        have HRe := hide hre
        clear hre
        go_wp2_with fail
        refine (replaceAll_any tx m _ (by omega) (by exact unhide HM1)).mono ?_
        rintro e w3 ⟨rfl, hb3⟩
        have HBd3 := hide (builder_below (unhide HBd1) hb3 (Nat.le_refl _))
        have HBe3 := hide ((unhide HBe1).trans (hb3.mono (by rw [World.size_alloc]; omega)))
        clear hb3
        go_wp2_with fail
        refine (sbuild_any w.heap.size (w.heap.size + 1) acc (esc tx) w3 (unhide HBd3) (by omega) (unhide HBe3).size).mono ?_
        rintro e w4 ⟨rfl, hbd4, hbe4⟩
        have HBd4 := hide hbd4
        have HBe4 := hide ((unhide HBe3).trans hbe4)
        clear hbd4 hbe4
        go_wp2_with fail
        go_roundw
        case rel => exact ⟨k + 1, by omega, by go_num, by rw [unhide HSt, unhide HRe]; exact unhide HBd4, unhide HBe4⟩
        case measure => simp [intOf]; omega
      | cons c t =>
        have hre : rend (tx, c :: t) = D ++ (c :: t) ++ D := rfl
        rw [hre] at hle
        have HRe := hide hre
        clear hre
        have hc0 : (D ++ (c :: t) ++ D).length = 2 + (t.length + 1) + 2 := by simp [D]; omega
        have hc1 : ¬ 9223372036854775807 < 2 + (t.length + 1) := by omega
        have hc2 : ¬ 9223372036854775807 < 2 + (t.length + 1) + 2 := by omega
        have hc3 : acc.length + (D ++ (c :: t) ++ D).length ≤ 8388608 := by omega
        have HC3 := hide hc3
        clear hc0 hc3 hle
        go_wp2_with fail
        rw [cat3]
        refine (sbuild_any w.heap.size (w.heap.size + 1) acc (D ++ (c :: t) ++ D) _ (by exact unhide HBd1) (unhide HC3) (unhide HBe1).size).mono ?_
        rintro e w4 ⟨rfl, hbd4, hbe4⟩
        have HBd4 := hide hbd4
        have HBe4 := hide ((unhide HBe1).trans hbe4)
        clear hbd4 hbe4
        go_wp2_with fail
        go_roundw
        case rel => exact ⟨k + 1, by omega, by go_num, by rw [unhide HSt, unhide HRe]; exact unhide HBd4, unhide HBe4⟩
        case measure => simp [intOf]; omega
    · have hki : decide ((k : Int) < (ps.length : Int)) = false := decide_eq_false (by omega)
      obtain rfl : k = ps.length := by omega
      rw [List.take_length] at hbd
      have HBd9 := hide hbd
      have HBe9 := hide hbe
      clear hbd hbe
      go_wp2_with fail
      refine (Tryd.Builder_String_any_k w.heap.size (w.heap.size + 1) (rendAll ps) _ (unhide HBd9) (unhide HBe9).size).mono ?_
      rintro e w' ⟨rfl, _, hb', _⟩
      have HB' := hide hb'
      clear hb'
      go_wp2_with fail
      go_ret
      exact ⟨rfl, (unhide HBe9).trans (unhide HB')⟩
end Go.Proofs.Qxb6613649aDoor
