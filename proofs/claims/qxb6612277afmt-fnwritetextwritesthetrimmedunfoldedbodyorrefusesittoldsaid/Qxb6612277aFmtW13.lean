/-
  Walks: unfolded.
-/
import Derived.Test.Qxb6612277aFmtW12
namespace Go.Proofs.Qxb6612277aFmt
open Go.RowKit Go.Shelf

attribute [local go_sem] Oper.semAt_some

theorem keeps_of_others {b : Nat} {W W' : World} (h : Lib.OthersKept 5 (some b) W W') (hb : ∃ c T f, W.heap[b]? = some (.cells c T f)) (hs : W.heap.size ≤ W'.heap.size) : KeepsOthers W W' := by
  refine ⟨hs, fun k o hk ho => ?_⟩
  refine h k o hk ?_ ?_
  · intro e
    injection e with e
    subst e
    obtain ⟨c, T, f, hc⟩ := hb
    rw [hc] at hk
    cases hk
    cases ho
  · rintro c fz rfl
    cases ho

theorem builderF_own {B b : Nat} {acc : List Value} {W W' : World} {row : Option Nat} (h : Lib.IsBuilderF 87 5 B b acc W) (hg : W.grownBy W' row) (hr : ∀ r, row = some r → ∃ o : Obj, W.heap[r]? = some o ∧ o.isCells = false) : Lib.IsBuilderF 87 5 B b acc W' := by
  have key : ∀ (k : Nat) (c : Array Value) (T : TypeId) (f : Nat × Nat), W.heap[k]? = some (Obj.cells c T f) → W'.heap[k]? = some (Obj.cells c T f) := fun k c T f hk => by
    rw [hg.block k (Array.getElem?_eq_some_iff.1 hk).1 ?_]
    · exact hk
    · intro e
      obtain ⟨o, ho, hc⟩ := hr k e.symm
      rw [hk] at ho
      cases ho
      cases hc
  have step : ∀ p, Lib.BuilderAtF 87 5 B b p acc W → Lib.BuilderAtF 87 5 B b p acc W' := fun p hb => by
    obtain ⟨h1, v, h2, h3, h4⟩ := hb
    refine ⟨h1, v, key _ _ _ _ h2, ?_, h4⟩
    obtain ⟨h5, h6⟩ := h3
    refine ⟨h5, ?_⟩
    rcases h6 with h6 | ⟨g, cap, cur, fz, e1, e2, e3, rest⟩
    · exact .inl h6
    · exact .inr ⟨g, cap, cur, fz, e1, e2, key _ _ _ _ e3, rest⟩
  rcases h with h | h
  · exact .inl (step _ h)
  · exact .inr (step _ h)

theorem flat_len {w : World} {b : Nat} (xs : List (Pc w b)) : (flat xs).length ≤ xs.length * 1048576 := by
  induction xs with
  | nil => simp [flat]
  | cons x r ih =>
    have h1 : flat (x :: r) = x.bytes ++ flat r := by simp [flat]
    have h2 : x.bytes.length ≤ 1048576 := x.2.1
    rw [h1]
    simp
    omega

set_option maxRecDepth 100000 in
set_option maxHeartbeats 2000000 in
theorem unfolded_many (p : Option Addr) (n c : Nat) (l : List UInt8) (w : World) (hl : l.length = n) (hn : n ≤ 1048576) (hcap : n ≤ c) (hc : BA w p l) (hp : p = none → c = 0)
    (j : Nat) (hj : Lib.indexByte (l.drop (bodyStart l 0)) 10 = j) (hj2 : j + 1 ≠ (l.drop (bodyStart l 0)).length) :
    Calls Tryf.prog 30 #[.agg #[.slice p n c, .int .u64 0]] w fun e w' => e = .returned (.string ⟨(unf (l.drop (bodyStart l 0))).toArray⟩) ∧ Below w.heap.size w w' := by
  refine (callsIn_wide (n := 6)).1 ?_
  refine callsIn_of_wp_marks Tryf.func30 rfl trivial ?_ rfl
  simp only [Tryf.ntmps30, List.size_toArray, List.length_cons, List.length_nil, Nat.reduceAdd, Nat.reduceSub, Array.replicate_succ, Array.replicate_zero, List.push_toArray, List.append_toArray, List.nil_append, List.cons_append]
  have hc1 : ∀ o, BA (w.alloc o) p l := fun o => hc.below ((Below.refl _ w).alloc (Nat.le_refl _) o)
  have HC := hide hc1
  clear hc hc1
  obtain ⟨t, ht⟩ : ∃ t, l.drop (bodyStart l 0) = t := ⟨_, rfl⟩
  rw [ht] at hj hj2 ⊢
  have htl : t.length ≤ 1048576 := by rw [← ht, List.length_drop]; omega
  have HJ := hide hj
  have HJ2 := hide hj2
  have HT := hide ht
  clear hj hj2 ht
  gi_wp2_with fail
  refine ⟨trivial, ?_⟩
  refine (callsIn_wide.2 (body_any p n c l _ hl hn hcap (by exact unhide HC _) hp)).mono ?_
  rw [unhide HT]
  rintro e w1 ⟨v, rfl, ⟨q, cap, rfl, hq1, hq2, hq3⟩, hb1⟩
  have hjl := (unf_some t j (unhide HJ)).1
  have HI := hide (indexByte_any q t.length cap t 10 w1 rfl hq3 hq2)
  rw [unhide HJ] at HI
  have x0 : w1.cell? ⟨w.heap.size, 0, none⟩ = some (.slice p n c) := (hb1.cell (p := ⟨w.heap.size, 0, none⟩) (by simp)).trans (by go_simp)
  have x1 : w1.cell? ⟨w.heap.size, 1, none⟩ = some (.int .u64 0) := (hb1.cell (p := ⟨w.heap.size, 1, none⟩) (by simp)).trans (by go_simp)
  have hB1 : Below w.heap.size w w1 := ((Below.refl _ w).alloc (Nat.le_refl _) _).trans (hb1.mono (by simp))
  have hBA1 : BA w1 p l := (unhide HC _).below hb1
  have HB1 := hide hB1
  have HBA1 := hide hBA1
  have HQ3 := hide hq3
  clear hb1 hB1 hBA1 hq3
  have hne : ((j : Int) == (t.length : Int) - 1) = false := by
    have := unhide HJ2
    rw [beq_eq_false_iff_ne]; omega
  gi_wp2_with fail
  refine ⟨trivial, ?_⟩
  refine (callsIn_wide.2 (unhide HI)).mono ?_
  rintro e w1' ⟨rfl, hw⟩
  subst hw
  gi_wp2_with fail
  refine ⟨trivial, ?_⟩
  refine (callsIn_wide.2 (unfolding_any p n c l _ hl hn hcap (by exact unhide HBA1) hp)).mono ?_
  rw [unhide HT]
  rintro e w2 ⟨q', cap', Bb, rfl, hr1, hr2, hr3, hr4, hr5⟩
  obtain ⟨gb, go, rfl, _⟩ := hr3 j hjl
  have hgb : gb < w2.heap.size := World.block_lt_of_cell? w2 _ (hr3.cell j hjl)
  have HB2 := hide ((unhide HB1).trans (hr5.mono (unhide HB1).size))
  have HR3 := hide hr3
  have HR4 := hide hr4
  clear HI x0 x1 HB1 HBA1 HQ3 hr3 hr4 hr5 hr2 hne
  gi_wp2_with fail
  refine ⟨trivial, ?_⟩
  refine (callsIn_wide.2 (Tryf.Builder_Grow_fresh w2.heap.size w2.heap.size t.length _ (Nat.le_refl _) (by exact heap_alloc_new w2 _) (by simp) (by omega))).mono ?_
  rintro e w3 ⟨rfl, hbd, hb3⟩
  have hs3 := hb3.size
  rw [World.size_alloc] at hs3
  have hB3 : Below w2.heap.size w2 w3 := ((Below.refl _ w2).alloc (Nat.le_refl _) _).trans hb3
  have HB23 := hide hB3
  have HR3' := hide ((unhide HR3).below hB3)
  have HR4' := hide (cell_later hB3 (unhide HR4))
  have HBD := hide (Lib.BuilderAtF.of hbd)
  clear hbd hb3 hB3
  gi_wp2_with fail
  refine wpIn_rangeFunc_ownF (α := Pc w3 gb) rfl (by omega) (gf := 58) (lb := #[.pointer (some ⟨Bb, 0, none⟩)]) rfl trivial (enters_of Tryf.func58 (by kernel_rfl) rfl)
    (encs := fun x => #[x.val]) (Kp := Below w2.heap.size) (S := fun ys => flat ys = unf t) (Sp := fun _ => True) (N := t.length) (w0 := w3)
    (fun l J Jx W hW hJ _ hY h0 => (pieces_in 5 l Bb w2.heap.size gb go t.length cap' t w3 (by omega) hgb rfl htl hr1 (unhide HR3') J Jx W hW hJ hY (cell_later hW (unhide HR4')) h0).mono (fun e W' ⟨h1, h2⟩ => ⟨h1, h2.elim (fun h => .inl h) (fun ⟨pre, hp⟩ => .inr ⟨pre, trivial, hp⟩)⟩))
    belowK_t (belowK_b (by omega)) (Below.refl _ _) (fun _ => rfl)
    (fun pre W => Lib.IsBuilderF 87 5 w2.heap.size w2.heap.size (Lib.byteCells (flat pre)) W ∧ Below w2.heap.size w2 W)
    (fun _ _ _ => False)
    (OwnFrom.and (Own.from (I := fun (pre : List (Pc w3 gb)) W => Lib.IsBuilderF 87 5 w2.heap.size w2.heap.size (Lib.byteCells (flat pre)) W) (fun s A B row hs hg hr => builderF_own hs hg hr) _) (ownFrom_below (Nat.le_refl _) (by omega)))
    (fun _ _ _ _ _ hs _ _ => hs)
    ⟨.inr (unhide HBD), unhide HB23⟩
    (fun x => { tmps := #[.agg #[.slice p n c, .int .u64 0], .pointer (some ⟨w.heap.size, 0, none⟩), .string ⟨#[]⟩, .slice q t.length cap, .int .i64 j, .slice (some ⟨gb, go, none⟩) t.length cap', .func (.func 58) #[] #[.pointer (some ⟨Bb, 0, none⟩)], .pointer (some ⟨w2.heap.size, 0, none⟩), x.val, .agg #[.slice p n c, .int .u64 0], .slice q t.length cap, .slice q t.length cap, .int .i64 j, .int .i64 j, .bool (decide ((j : Int) < 0)), undef, undef, .int .i64 j, .slice q t.length cap, .int .i64 t.length, .int .i64 ((t.length : Int) - 1), .bool false, undef, undef, undef, undef, undef, undef, undef, .tuple #[.slice (some ⟨gb, go, none⟩) t.length cap', .func (.func 58) #[] #[.pointer (some ⟨Bb, 0, none⟩)]], .agg #[.slice p n c, .int .u64 0], .tuple #[.slice (some ⟨gb, go, none⟩) t.length cap', .func (.func 58) #[] #[.pointer (some ⟨Bb, 0, none⟩)]], .slice (some ⟨gb, go, none⟩) t.length cap', .func (.func 58) #[] #[.pointer (some ⟨Bb, 0, none⟩)], .slice q t.length cap, .int .i64 t.length, .tuple #[], .func (.func 58) #[] #[.pointer (some ⟨Bb, 0, none⟩)], x.val, undef, undef, undef], defers := [] }) ?assign ?body ?done ?stop
  case assign =>
    intro l x W K hK
    gi_wp2
    exact hK
  case body =>
    rintro l pre x W ⟨hbd, hB⟩ hlen
    have hflat := flat_len pre
    have hx1 : x.1.2.2.length ≤ 1048576 := x.2.1
    have hxc : BA W (some ⟨gb, x.1.1, none⟩) x.1.2.2 := BA.mk fun i hi => by
      have h3 := x.2.2.cell i hi
      rw [(unhide HB23).cell (p := ⟨gb, x.1.1 + i, none⟩) hgb] at h3
      exact (hB.cell (p := ⟨gb, x.1.1 + i, none⟩) hgb).trans h3
    have hWs := hB.size
    have HW := hide (bwrite w2.heap.size w2.heap.size gb x.1.1 x.1.2.2.length x.1.2.1 (flat pre) x.1.2.2 W hbd rfl hxc hgb (by omega) hWs)
    have hcells : ∃ c T f, W.heap[w2.heap.size]? = some (.cells c T f) := by
      rcases hbd with ⟨_, v, h, _⟩ | ⟨_, v, h, _⟩
      · exact ⟨_, _, _, h⟩
      · exact ⟨_, _, _, h⟩
    have HCL := hide hcells
    have HBW := hide hB
    clear hcells hxc hflat hB hbd
    gi_wp2_with fail
    refine ⟨trivial, ?_⟩
    refine (CallsIn.inRound l (callsIn_wide.2 (unhide HW))).mono ?_
    rintro e W2 ⟨rfl, hbd2, hb2, hk2⟩
    gi_wp2
    exact ⟨keeps_of_others hk2 (unhide HCL) hb2.size, hb2, by rw [flat_snoc]; exact .inr hbd2, (unhide HBW).trans hb2⟩
  case done =>
    rintro D ys W hD hS ⟨hbd, hB⟩ hK
    have HS := hide hS
    have HBD2 := hide hbd
    have HBW := hide hB
    have HKD := hide hK
    clear hS hbd hB hK
    gi_wp2_with fail
    refine ⟨trivial, ?_⟩
    refine (callsIn_wide.2 (Tryf.Builder_String_any_k w2.heap.size w2.heap.size (flat ys) W (unhide HBD2) (unhide HBW).size)).mono ?_
    rintro e W2 ⟨rfl, _, hb2, hk2⟩
    have hKD : W2.heap[D]? = some (.deferred (some [])) := hk2 D _ (unhide HKD) (fun e => by injection e with e; omega) (fun c fz e => by cases e)
    have hBF : Below w.heap.size w W2 := (unhide HB2).trans (((unhide HBW).trans hb2).mono (unhide HB2).size)
    clear hk2
    gi_wp2
    refine ⟨by simp, .inl ⟨_, _, rfl, run_takeDeferred hKD, ?_⟩⟩
    refine ⟨_, results_tmp rfl _ _ _, ?_, ?_⟩
    · show Ending.returned (Value.string ⟨(flat ys).toArray⟩) = _
      rw [unhide HS]
    · exact hBF.trans (belowK_b (w := w) (Nat.le_refl _) W2 D _ _ (by have := (unhide HB2).size; omega) hKD rfl rfl)
  case stop =>
    rintro D c pre W _ _ h _
    exact h.elim
end Go.Proofs.Qxb6612277aFmt
