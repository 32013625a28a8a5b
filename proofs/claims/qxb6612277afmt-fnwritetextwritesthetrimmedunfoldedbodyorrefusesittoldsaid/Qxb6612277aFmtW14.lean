/-
  Walks: unfolded, its two short ways; the whole; Text.
-/
import Derived.Test.Qxb6612277aFmtW13
namespace Go.Proofs.Qxb6612277aFmt
open Go.RowKit Go.Shelf

attribute [local go_sem] Oper.semAt_some

set_option maxRecDepth 100000 in
set_option maxHeartbeats 2000000 in
theorem unfolded_none (p : Option Addr) (n c : Nat) (l : List UInt8) (w : World) (hl : l.length = n) (hn : n ≤ 1048576) (hcap : n ≤ c) (hc : BA w p l) (hp : p = none → c = 0)
    (hj : Lib.indexByte (l.drop (bodyStart l 0)) 10 = -1) :
    Calls Tryf.prog 30 #[.agg #[.slice p n c, .int .u64 0]] w fun e w' => e = .returned (.string ⟨(unf (l.drop (bodyStart l 0))).toArray⟩) ∧ Below w.heap.size w w' := by
  refine (callsIn_wide (n := 6)).1 ?_
  refine callsIn_of_wp_marks Tryf.func30 rfl trivial ?_ rfl
  simp only [Tryf.ntmps30, List.size_toArray, List.length_cons, List.length_nil, Nat.reduceAdd, Nat.reduceSub, Array.replicate_succ, Array.replicate_zero, List.push_toArray, List.append_toArray, List.nil_append, List.cons_append]
  have hc1 : ∀ o, BA (w.alloc o) p l := fun o => hc.below ((Below.refl _ w).alloc (Nat.le_refl _) o)
  have HC := hide hc1
  clear hc hc1
  obtain ⟨t, ht⟩ : ∃ t, l.drop (bodyStart l 0) = t := ⟨_, rfl⟩
  rw [ht] at hj ⊢
  have htl : t.length ≤ 1048576 := by rw [← ht, List.length_drop]; omega
  have HJ := hide hj
  have HT := hide ht
  clear hj ht
  gi_wp2_with fail
  refine ⟨trivial, ?_⟩
  refine (callsIn_wide.2 (body_any p n c l _ hl hn hcap (by exact unhide HC _) hp)).mono ?_
  rw [unhide HT]
  rintro e w1 ⟨v, rfl, ⟨q, cap, rfl, hq1, hq2, hq3⟩, hb1⟩
  have HI := hide (indexByte_any q t.length cap t 10 w1 rfl hq3 hq2)
  rw [unhide HJ] at HI
  have hB1 : Below w.heap.size w w1 := ((Below.refl _ w).alloc (Nat.le_refl _) _).trans (hb1.mono (by simp))
  have hcv := convert_str hq3 cap
  have HB1 := hide hB1
  clear hb1 hB1 hq3
  gi_wp2_with fail
  refine ⟨trivial, ?_⟩
  refine (callsIn_wide.2 (unhide HI)).mono ?_
  rintro e w1' ⟨rfl, hw⟩
  subst hw
  gi_wp2
  refine ⟨_, results_tmp rfl _ _ _, ?_, unhide HB1⟩
  rw [unf_none t (unhide HJ)]
  rfl

set_option maxRecDepth 100000 in
set_option maxHeartbeats 2000000 in
theorem unfolded_one (p : Option Addr) (n c : Nat) (l : List UInt8) (w : World) (hl : l.length = n) (hn : n ≤ 1048576) (hcap : n ≤ c) (hc : BA w p l) (hp : p = none → c = 0)
    (j : Nat) (hj : Lib.indexByte (l.drop (bodyStart l 0)) 10 = j) (hj2 : j + 1 = (l.drop (bodyStart l 0)).length) :
    Calls Tryf.prog 30 #[.agg #[.slice p n c, .int .u64 0]] w fun e w' => e = .returned (.string ⟨(unf (l.drop (bodyStart l 0))).toArray⟩) ∧ Below w.heap.size w w' := by
  refine (callsIn_wide (n := 6)).1 ?_
  refine callsIn_of_wp_marks Tryf.func30 rfl trivial ?_ rfl
  simp only [Tryf.ntmps30, List.size_toArray, List.length_cons, List.length_nil, Nat.reduceAdd, Nat.reduceSub, Array.replicate_succ, Array.replicate_zero, List.push_toArray, List.append_toArray, List.nil_append, List.cons_append]
  have hc1 : ∀ o, BA (w.alloc o) p l := fun o => hc.below ((Below.refl _ w).alloc (Nat.le_refl _) o)
  have HC := hide hc1
  have kc := fun (w : World) (C : Array Value) (n c : Nat) => Lib.run_convert_bytes_const (P := Tryf.prog) w 32 5 C n c Tryf.underlying32 Tryf.underlying5
  clear hc hc1
  obtain ⟨t, ht⟩ : ∃ t, l.drop (bodyStart l 0) = t := ⟨_, rfl⟩
  rw [ht] at hj hj2 ⊢
  have htl : t.length ≤ 1048576 := by rw [← ht, List.length_drop]; omega
  have HJ := hide hj
  have HT := hide ht
  have HJ2 := hide hj2
  clear hj ht hj2
  gi_wp2_with fail
  refine ⟨trivial, ?_⟩
  refine (callsIn_wide.2 (body_any p n c l _ hl hn hcap (by exact unhide HC _) hp)).mono ?_
  rw [unhide HT]
  rintro e w1 ⟨v, rfl, ⟨q, cap, rfl, hq1, hq2, hq3⟩, hb1⟩
  have hjl := (unf_some t j (unhide HJ)).1
  obtain ⟨gb, go, rfl, _⟩ := hq3 j hjl
  have HI := hide (indexByte_any (some ⟨gb, go, none⟩) t.length cap t 10 w1 rfl hq3 hq2)
  rw [unhide HJ] at HI
  have hB1 : Below w.heap.size w w1 := ((Below.refl _ w).alloc (Nat.le_refl _) _).trans (hb1.mono (by simp))
  have hBA2 : BA (w1.alloc (.cells #[.int .u8 13] 5 (1, 2))) (some ⟨gb, go, none⟩) (t.take j) := (hq3.below ((Below.refl _ w1).alloc (Nat.le_refl _) _)).take j
  have HB1 := hide hB1
  have HBA2 := hide hBA2
  clear hb1 hB1 hq3 hBA2 hq2
  have hne : ((j : Int) == (t.length : Int) - 1) = true := by
    have := unhide HJ2
    rw [beq_iff_eq]; omega
  have hcv : Sem.run Tryf.prog (convert 32 9 (.slice (some ⟨gb, go, none⟩) (trimCR (t.take j)).length cap)) (w1.alloc (.cells #[.int .u8 13] 5 (1, 2))) = .ok (.string ⟨(trimCR (t.take j)).toArray⟩) (w1.alloc (.cells #[.int .u8 13] 5 (1, 2))) := by
    obtain ⟨m, _, e⟩ := trimCR_take (t.take j)
    rw [e]
    exact convert_str ((unhide HBA2).take m) cap
  gi_wp2_with fail
  refine ⟨trivial, ?_⟩
  refine (callsIn_wide.2 (unhide HI)).mono ?_
  rintro e w1' ⟨rfl, hw⟩
  subst hw
  gi_wp2_with fail
  refine ⟨trivial, ?_⟩
  refine (callsIn_wide.2 (trim_cr gb go j cap w1'.heap.size (t.take j) _ (by rw [List.length_take]; omega) (by omega) (by omega) (by exact unhide HBA2) (by exact World.cell?_alloc_mark w1' _ _ _ 0))).mono ?_
  rintro e w2 ⟨rfl, rfl⟩
  gi_wp2
  refine ⟨_, results_tmp rfl _ _ _, ?_, (unhide HB1).alloc (unhide HB1).size _⟩
  have e1 : t.drop (j + 1) = [] := List.drop_eq_nil_of_le (by have := unhide HJ2; omega)
  have e2 : unf t = trimCR (t.take j) := by rw [(unf_some t j (unhide HJ)).2, e1]; simp [unf]
  rw [e2]
  rfl

/-- (Field).unfolded: the body, unfolded. -/
theorem unfolded_any (p : Option Addr) (n c : Nat) (l : List UInt8) (w : World) (hl : l.length = n) (hn : n ≤ 1048576) (hcap : n ≤ c) (hc : BA w p l) (hp : p = none → c = 0) :
    Calls Tryf.prog 30 #[.agg #[.slice p n c, .int .u64 0]] w fun e w' => e = .returned (.string ⟨(unf (l.drop (bodyStart l 0))).toArray⟩) ∧ Below w.heap.size w w' := by
  have hge := Lib.indexByte_ge (l.drop (bodyStart l 0)) 10
  by_cases h : Lib.indexByte (l.drop (bodyStart l 0)) 10 = -1
  · exact unfolded_none p n c l w hl hn hcap hc hp h
  · obtain ⟨j, hj⟩ : ∃ j : Nat, Lib.indexByte (l.drop (bodyStart l 0)) 10 = j := ⟨(Lib.indexByte (l.drop (bodyStart l 0)) 10).toNat, by omega⟩
    by_cases h2 : j + 1 = (l.drop (bodyStart l 0)).length
    · exact unfolded_one p n c l w hl hn hcap hc hp j hj h2
    · exact unfolded_many p n c l w hl hn hcap hc hp j hj h2

theorem wsp_contains (x : UInt8) : ([32, 9] : List UInt8).contains x = wsp x := by
  simp [wsp]
  rfl
theorem trimS_eq (u : List UInt8) : Lib.trimS u [32, 9] = trimR (trimL u) := by
  rw [← trim_comm]
  unfold Lib.trimS Lib.trimLeftS Lib.trimRightS trimL trimR
  have : (fun x : UInt8 => ([32, 9] : List UInt8).contains x) = wsp := funext wsp_contains
  rw [this]

/-- The text of the raw field l. -/
def textOf (l : List UInt8) : List UInt8 := trimR (trimL (unf (l.drop (bodyStart l 0))))
theorem textOf_len (l : List UInt8) : (textOf l).length ≤ l.length := by
  unfold textOf
  have h1 := trimR_len (trimL (unf (l.drop (bodyStart l 0))))
  have h2 := trimL_len (unf (l.drop (bodyStart l 0)))
  have h3 := unf_len (l.drop (bodyStart l 0))
  rw [List.length_drop] at h3
  omega

set_option maxHeartbeats 1000000 in
theorem text_any (p : Option Addr) (n c : Nat) (l : List UInt8) (w : World) (hl : l.length = n) (hn : n ≤ 1048576) (hcap : n ≤ c) (hc : BA w p l) (hp : p = none → c = 0) :
    Calls Tryf.prog 24 #[.agg #[.slice p n c, .int .u64 0]] w fun e w' => e = .returned (.string ⟨(textOf l).toArray⟩) ∧ Below w.heap.size w w' := by
  have hc1 : ∀ o, BA (w.alloc o) p l := fun o => hc.below ((Below.refl _ w).alloc (Nat.le_refl _) o)
  have hU := fun o => unfolded_any p n c l (w.alloc o) hl hn hcap (hc1 o) hp
  clear hc hc1
  have hul : (unf (l.drop (bodyStart l 0))).length ≤ 1048576 := by
    have h3 := unf_len (l.drop (bodyStart l 0))
    rw [List.length_drop] at h3
    omega
  have hx : textOf l = trimR (trimL (unf (l.drop (bodyStart l 0)))) := rfl
  rw [hx]
  clear hx
  generalize unf (l.drop (bodyStart l 0)) = u at *
  have HU := hide hU
  clear hU
  go_enter Tryf.func24, Tryf.ntmps24
  go_wp2_with fail
  refine (unhide HU _).mono ?_
  rintro e w1 ⟨rfl, hb1⟩
  go_wp2_with fail
  refine (Tryf.strings_Trim_laid ⟨u.toArray⟩ ⟨#[32, 9]⟩ w1 (by simp [ByteArray.size]; omega) (by decide) (by
    intro j b h
    match j, h with
    | 0, h => cases h; decide
    | 1, h => cases h; decide
    | j + 2, h => simp at h)).mono ?_
  rintro e w2 ⟨rfl, hb2⟩
  go_wp2
  go_ret
  rw [trimS_eq]
  have hb0 : Below w.heap.size w w1 := ((Below.refl _ w).alloc (Nat.le_refl _) _).trans (hb1.mono (by simp))
  exact ⟨rfl, hb0.trans (hb2.mono hb0.size)⟩
end Go.Proofs.Qxb6612277aFmt
