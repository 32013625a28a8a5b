import Derived.Test.Qxb6612277aFmtW16
import Derived.Deep.CutRange
import Derived.Lib.BufferRead
import Derived.Lib.BufferWrite
namespace Go.Proofs.Qxb6612277aFmt
open Go.RowKit Go.Stop

theorem mkn (n : Nat) (hn : n ≤ 1048576) (w : World) : (Instr.makeSlice 32 (.int .i64 (n : Int)) (.int .i64 (n : Int))).run Tryf.prog w = .ok (.slice (some ⟨w.heap.size, 0, none⟩) n n) (w.alloc (.cells (zs n) 5)) := by
  obtain ⟨i0, hi, hz0, hz1, hz2⟩ := info_parts info5
  have h := run_make (P := Tryf.prog) w 32 5 i0 (.int .u8 0) Tryf.underlying32 hi hz0 .i64 .i64 n n (by omega) (by omega) (by rw [hz2]; omega) (by omega)
  rw [hz1] at h
  have e1 : (Value.int .u8 0).cells = #[.int .u8 0] := rfl
  rw [e1] at h
  simpa [zs] using h

theorem BA_row {w : World} {g : Nat} {l : List UInt8} {t : TypeId} {fz : Nat × Nat} (h : w.heap[g]? = some (.cells (Lib.byteCells l).toArray t fz)) : BA w (some ⟨g, 0, none⟩) l := by
  refine BA.mk fun i hi => ?_
  have := Lib.bytes_of_row (l := l) h (by rw [List.take_of_length_le (by simp [Lib.byteCells])]) i hi
  simpa [Go.WideShapes.add_plain] using this

/-- The whole row is copied into a fresh one. -/
theorem copied (ad : Addr) (n c : Nat) (l : List UInt8) (w : World) (hl : l.length = n) (hc : BA w (some ad) l) :
    ∃ w2, (Builtin.copy_ #[32, 32] 3 #[.slice (some ⟨w.heap.size, 0, none⟩) n n, .slice (some ad) n c]).run Tryf.prog (w.alloc (.cells (zs n) 5)) = .ok (.int .i64 (n : Int)) w2 ∧
      BA w2 (some ⟨w.heap.size, 0, none⟩) l ∧ Below w.heap.size w w2 := by
  have hba : Below w.heap.size w (w.alloc (.cells (zs n) 5)) := (Below.refl _ w).alloc (Nat.le_refl _) _
  rcases Nat.eq_zero_or_pos n with h0 | h0
  · have hl0 : l = [] := List.eq_nil_of_length_eq_zero (by omega)
    subst h0
    subst hl0
    exact ⟨_, run_copy_none (P := Tryf.prog) _ 32 32 3 5 _ _ 0 0 0 c Tryf.underlying32 size5 (by simp), BA.nil _ _, hba⟩
  · have hg : (w.alloc (.cells (zs n) 5)).heap[w.heap.size]? = some (.cells (zs n) 5 (0, 0)) := Array.getElem?_push_size
    have hsrc : ∀ (j : Nat) v, (Lib.byteCells l)[j]? = some v → (w.alloc (.cells (zs n) 5)).cell? (ad.add j) = some v := by
      intro j v hv
      have hj : j < l.length := by
        have := (List.getElem?_eq_some_iff.1 hv).1
        rwa [Lib.byteCells_length] at this
      obtain ⟨b, o1, e, hcell⟩ := hc j hj
      cases e
      have : v = .int .u8 (l[j].toNat : Int) := by
        have h2 : (Lib.byteCells l)[j]? = some (.int .u8 (l[j].toNat : Int)) := by simp [Lib.byteCells, hj]
        rw [h2] at hv; exact (Option.some.inj hv).symm
      rw [this]
      exact cell_later hba (by simpa [Go.WideShapes.add_plain] using hcell)
    have hrun := run_copy_row (P := Tryf.prog) (w.alloc (.cells (zs n) 5)) 32 32 3 5 w.heap.size 0 n n ad n c (zs n) 5 (Lib.byteCells l) Tryf.underlying32 size5 hg (by rw [Lib.byteCells_length, hl]; exact (Nat.min_self n).symm) hsrc (by rw [Lib.byteCells_length, hl, zs_size]; omega) (Lib.byteCells_one l)
    have hcs : (zs n).toList.take 0 ++ Lib.byteCells l ++ (zs n).toList.drop (0 + (Lib.byteCells l).length) = Lib.byteCells l := by
      rw [List.drop_eq_nil_of_le (by rw [Lib.byteCells_length, hl]; simp [zs_size])]; simp
    rw [hcs, Lib.byteCells_length, hl] at hrun
    exact ⟨_, hrun, BA_row (setRow_heap _ _ _ _ _ _ hg), below_setRow hba (Nat.le_refl _) _⟩

set_option maxRecDepth 100000 in
set_option maxHeartbeats 2000000 in
theorem law_any (F : Interp) (p : Option Addr) (n c : Nat) (l : List UInt8) (w : World) (hF : F.answers w.tape) (hl : l.length = n) (hn : n ≤ 1048576) (hcap : n ≤ c) (hc : BA w p l) (hp : p = none → c = 0) :
    Calls Tryf.prog 4 #[.slice p n c] w fun e w' => e = .returned (.bool true) ∧ Below w.heap.size w w' := by
  have hnn := fun w => run_neq_slice_nil_any (P := Tryf.prog) w 32 5 p n c 0 0 Tryf.underlying32
  have hmk := mkn n hn
  have HC := hide hc
  have HP := hide hp
  clear hc hp
  go_enter Tryf.func4, Tryf.ntmps4
  go_upto_if 17 with (go_at_call 11; refine (zzBytes_ok p n c w hn).mono ?_; rintro e w' ⟨rfl, rfl⟩)
  go_cut [0, 3] from 10 to 24 (fun s _ wc => ∃ p' c', s = .slice p' n c' ∧ n ≤ c' ∧ BA wc p' l ∧ (p' = none → c' = 0) ∧ Below w.heap.size w wc)
  case first =>
    cases p with
    | none =>
      go_wp2
      go_meet
      case rel => exact ⟨none, c, rfl, hcap, unhide HC, fun _ => (unhide HP) trivial, Below.refl _ _⟩
    | some ad =>
      obtain ⟨w2, hcp, hB2, hb2⟩ := copied ad n c l w hl (unhide HC)
      have HB2 := hide hB2
      clear hB2
      go_wp2
      go_meet
      case rel => exact ⟨some ⟨w.heap.size, 0, none⟩, n, rfl, Nat.le_refl _, unhide HB2, nofun, hb2⟩
  case rest =>
    obtain ⟨p', c', rfl, hc', hBA, hp', hb0⟩ := hcut
    have hle := bodyStart_le l 0
    have hlen := textOf_len l
    clear HC HP hnn hmk
    have HP := hide hp'
    have HB := hide hBA
    have HIB := hide (isBytes_from hBA hp' (by omega) (bodyStart l 0) (by omega))
    clear hp' hBA
    go_upto_region 9 with fail
    go_cut [0, 4] from 25 to 29 (fun s0 s wx => ∃ q cap, s0 = .slice p' n c' ∧ s = .slice q (textOf l).length cap ∧ BA wx q (textOf l) ∧ Below wc.heap.size wc wx)
    case first =>
      go_wp2_with fail
      refine (zzBodyStart_any p' n c' l _ hl hn (by exact unhide HB)).mono ?_
      rintro e w' ⟨rfl, rfl⟩
      have hBd : ∀ (k : Nat), c' = k → bodyStart l 0 = k → BA wc p' (l.drop (bodyStart l 0)) := fun k h1 h2 => by
        rw [List.drop_eq_nil_of_le (by omega)]; exact BA.nil _ _
      have hBe : c' ≠ bodyStart l 0 → BA wc (Option.map (fun x => x.add (bodyStart l 0)) p') (l.drop (bodyStart l 0)) := fun h => by
        have h' := unhide HIB
        rw [if_neg h] at h'
        obtain ⟨q, cap, e, _, _, hBB⟩ := h'
        injection e with e1 e2 e3
        subst e1
        exact hBB
      have HBd := hide hBd
      have HBe := hide hBe
      clear hBd hBe
      go_wp2_with fail
      · refine (wtUnfoldTrim_any p' (n - bodyStart l 0) 0 (l.drop (bodyStart l 0)) _ (by rw [List.length_drop, hl]) (by omega) (by exact unhide HBd _ h rfl)).mono ?_
        rintro e w' ⟨q, cap, rfl, hBt, hb1⟩
        go_wp2
        go_meet
        case rel => exact ⟨q, cap, by rw [h], rfl, hBt, hb1⟩
      · refine (wtUnfoldTrim_any _ (n - bodyStart l 0) _ (l.drop (bodyStart l 0)) _ (by rw [List.length_drop, hl]) (by omega) (by exact unhide HBe h)).mono ?_
        rintro e w' ⟨q, cap, rfl, hBt, hb1⟩
        go_wp2
        go_meet
        case rel => exact ⟨q, cap, rfl, rfl, hBt, hb1⟩
    case rest =>
      rename_i wx
      obtain ⟨q, cap, rfl, rfl, hBt, hb1⟩ := hcut
      have HBt := hide hBt
      clear hBt
      have HB2 := hide ((unhide HB).below hb1)
      have hb2 := hb0.trans (hb1.mono hb0.size)
      go_wp2_with fail
      refine (zzWriteText_any F p' n c' l _ (by rw [hb2.tape]; exact hF) hl hn hc' (by exact unhide HB2) (unhide HP)).mono ?_
      rintro e w3 (⟨hh, q1, c1, q2, c2, rfl, hT, hR, hb3⟩ | ⟨hh, rfl, hb3⟩)
      · have HT := hide hT
        have HR := hide hR
        have HH := hide hh
        clear hT hR hh
        have HBu := hide ((unhide HBt).below hb3)
        go_wp2_with fail
        refine (wtHoldable_any q (textOf l).length cap (textOf l) _ rfl (by omega) (by exact unhide HBu)).mono ?_
        rw [unhide HH]
        rintro e w' ⟨rfl, rfl⟩
        go_wp2_with fail
        have hbd : ∀ m, Below w.heap.size w (w3.drewN m) := fun m => below_drewN (hb2.trans (hb3.mono hb2.size)) m
        have HTd : Hid (∀ m, BA (w3.drewN m) q1 (textOf l)) := hide fun m => (unhide HT).below (below_drewN (Below.refl _ _) m)
        have HBd : Hid (∀ m, BA (w3.drewN m) q (textOf l)) := hide fun m => (unhide HBu).below (below_drewN (Below.refl _ _) m)
        have HRd : Hid (∀ m, RA (w3.drewN m) q2 (textOf l)) := hide fun m => RA.below (unhide HR) (below_drewN (Below.refl _ _) m)
        clear HR HIB HB HB2 HBt
        go_loopw [9] (fun i wr => ∃ k m : Nat, k ≤ (textOf l).length ∧ i = .int .i64 k ∧ wr = w3.drewN m) (fun i _ => (textOf l).length - (intOf i).toNat)
        case atStart => exact ⟨0, 0, Nat.zero_le _, rfl, rfl⟩
        case round =>
          obtain ⟨k, m, hk, rfl, rfl⟩ := hrel
          by_cases hlt : k < (textOf l).length
          · obtain ⟨b, o, rfl, hcell⟩ := unhide HT k hlt
            obtain ⟨b2, o2, rfl, hcell2⟩ := unhide HBu k hlt
            go_wp2
            go_quiet (fail)
            go_wp2
            go_round
            case rel => exact ⟨k + 1, m + nq, by omega, by go_num, rfl⟩
            case measure => simp [intOf]; omega
          · go_wp2_with fail
            refine (wtRanksRight_any q q2 (textOf l).length cap c2 (textOf l) _ rfl (by omega) (by exact unhide HBd m) (by exact unhide HRd m)).mono ?_
            rintro e w' ⟨rfl, rfl⟩
            go_wp2
            go_ret
            exact ⟨rfl, hbd m⟩
      · have HH := hide hh
        clear hh
        have HBu := hide ((unhide HBt).below hb3)
        go_wp2_with fail
        refine (wtHoldable_any q (textOf l).length cap (textOf l) _ rfl (by omega) (by exact unhide HBu)).mono ?_
        rw [unhide HH]
        rintro e w' ⟨rfl, rfl⟩
        go_wp2
        go_ret
        exact ⟨rfl, hb2.trans (hb3.mono hb2.size)⟩

theorem law_big (p : Option Addr) (n c : Nat) (w : World) (h : 1048576 < n) (hn : n ≤ 9223372036854775807) :
    Calls Tryf.prog 4 #[.slice p n c] w fun e w' => e = .returned (.bool true) ∧ Below w.heap.size w w' := by
  go_enter Tryf.func4, Tryf.ntmps4
  go_wp2_with (go_at_call 11; refine (zzBytes_big p n c w h hn).mono ?_; rintro e w' ⟨rfl, rfl⟩)
  go_ret
  exact ⟨rfl, Below.refl _ _⟩
end Go.Proofs.Qxb6612277aFmt
