import Derived.Test.Qxb6613649aDoorW6
namespace Go.Proofs.Qxb6613649aDoor
open Go.RowKit

theorem info9 : (Tryd.prog.info? 9).map (fun i => (i.zero, i.size, i.bytes)) = some (some (.string ⟨#[]⟩), 1, 16) := by kernel_rfl
def strs (zs : List (List UInt8)) : List Value := zs.map fun z => .string ⟨z.toArray⟩

theorem addr_add (g j : Nat) : (⟨g, 0, none⟩ : Addr).add j = ⟨g, j, none⟩ := by
  unfold Addr.add
  split
  · simp_all
  · simp
theorem part_cells {w : World} {B g n cap : Nat} {ps : List Pt} (h : w.ownsRow B 62 2 (.slice (some ⟨g, 0, none⟩) n cap) ps.length (ptCells ps)) (k : Nat) (hk : k < ps.length) :
    w.cell? ⟨g, k * 2, none⟩ = some (.string ⟨ps[k].1.toArray⟩) ∧ w.cell? ⟨g, k * 2 + 1, none⟩ = some (.string ⟨ps[k].2.toArray⟩) := by
  have hget : ∀ (ps : List Pt) (k : Nat) (hk : k < ps.length), (ptCells ps)[k * 2]? = some (.string ⟨ps[k].1.toArray⟩) ∧ (ptCells ps)[k * 2 + 1]? = some (.string ⟨ps[k].2.toArray⟩) := by
    intro ps
    induction ps with
    | nil => intro k hk; simp at hk
    | cons a t ih =>
      intro k hk
      have e : ptCells (a :: t) = .string ⟨a.1.toArray⟩ :: .string ⟨a.2.toArray⟩ :: ptCells t := rfl
      cases k with
      | zero => exact ⟨rfl, rfl⟩
      | succ k =>
        have := ih k (by simpa using hk)
        rw [e, show (k + 1) * 2 = k * 2 + 1 + 1 by omega]
        simpa using this
  obtain ⟨h1, h2⟩ := hget ps k hk
  have c1 := h.cells (g := g) rfl _ _ h1
  have c2 := h.cells (g := g) rfl _ _ h2
  rw [addr_add] at c1 c2
  exact ⟨c1, c2⟩

theorem contains_law (zs : List (List UInt8)) (x : List UInt8) : Lib.containsS ((zs.map fun z => (⟨z.toArray⟩ : ByteArray)).take zs.length) ⟨x.toArray⟩ = zs.contains x := by
  have e : (zs.map fun z => (⟨z.toArray⟩ : ByteArray)).take zs.length = zs.map fun z => (⟨z.toArray⟩ : ByteArray) := List.take_of_length_le (by simp)
  rw [e, Bool.eq_iff_iff, Lib.containsS_iff, List.contains_iff_mem, List.mem_map]
  constructor
  · rintro ⟨z, hz, hzx⟩
    injection hzx with hzx
    have : z = x := by
      have := congrArg Array.toList hzx
      simpa using this
    rw [← this]; exact hz
  · intro h
    exact ⟨x, h, rfl⟩

/-- slices.Contains at the names so far. -/
theorem contains_any (B : Nat) (v : Value) (zs : List (List UInt8)) (x : List UInt8) (w : World) (h : w.ownsRow B 9 1 v zs.length (strs zs)) (hl : zs.length ≤ 4194304) :
    Calls Tryd.prog 29 #[v, .string ⟨x.toArray⟩] w fun e w' => e = .returned (.bool (zs.contains x)) ∧ w' = w := by
  rcases h.2 with ⟨rfl, h0⟩ | ⟨g, cap, cur, rfl, _⟩
  · obtain rfl : zs = [] := List.eq_nil_of_length_eq_zero h0
    exact Tryd.slices_Contains_string_empty none 0 ⟨x.toArray⟩ w
  · have hc := h.cells (g := g) rfl
    have := Tryd.slices_Contains_string g 0 zs.length cap (zs.map fun z => (⟨z.toArray⟩ : ByteArray)) ⟨x.toArray⟩ w (by simp) (by omega) (by
      intro j hj
      have hj' : j < zs.length := by simpa using hj
      have := hc j (.string ⟨zs[j].toArray⟩) (by simp [strs, List.getElem?_map, List.getElem?_eq_getElem hj'])
      rw [addr_add] at this
      rw [Nat.zero_add, this]
      simp [List.getD, List.getElem?_eq_getElem hj'])
    rw [contains_law] at this
    exact this

theorem cells_new1 (w : World) (t : TypeId) (a : Value) : ∀ (j : Nat) (u : Value), ([a] : List Value)[j]? = some u → (w.alloc (.cells #[a] t)).cell? ((⟨w.heap.size, 0, none⟩ : Addr).add j) = some u := by
  intro j u h
  have hb : (w.alloc (.cells #[a] t)).heap[w.heap.size]? = some (.cells #[a] t (0, 0)) := Array.getElem?_push_size
  generalize w.alloc (.cells #[a] t) = W at *
  match j, h with
  | 0, h => cases h; simp [World.cell?, Addr.add, hb]
  | j + 1, h => simp at h

/-- The names after some parts. -/
def NRow (B : Nat) (v : Value) (zs : List (List UInt8)) (w : World) : Prop := w.ownsRow B 9 1 v zs.length (strs zs)

theorem own_below {w w' : World} {B B' n s : Nat} {e : TypeId} {v : Value} {xs : List Value} (h : w.ownsRow B e s v n xs) (hb : Below B' w w') (hB : w.heap.size ≤ B') : w'.ownsRow B e s v n xs := by
  refine ⟨h.1, ?_⟩
  rcases h.2 with h1 | ⟨g, cap, cur, h3, h4, h5, h6⟩
  · exact .inl h1
  · exact .inr ⟨g, cap, cur, h3, h4, (hb.block g (Nat.lt_of_lt_of_le (Array.getElem?_eq_some_iff.1 h5).1 hB)).trans h5, h6⟩

theorem vars_put {B n N : Nat} {u pv : Value} {acc : List (List UInt8)} {xs : List Value} {w0 W : World} (x : List UInt8) (hn : NRow n u acc W) (hp : W.ownsRow B 62 2 pv N xs) (hb : Below n w0 W) (hsz : n ≤ W.heap.size) (v' : Value) (w' : World)
    (ho : w'.ownsRow n 9 1 v' (acc.length + 1) (strs acc ++ [.string ⟨x.toArray⟩])) (hg : (W.alloc (.cells #[.string ⟨x.toArray⟩] 9)).grownBy w' u.ownBlock) :
    NRow n v' (acc ++ [x]) w' ∧ Below n w0 w' ∧ w'.ownsRow B 62 2 pv N xs := by
  have hrow : ∀ j, u.ownBlock = some j → n ≤ j ∧ ∃ c, W.heap[j]? = some (.cells c 9 (0, 0)) := by
    intro j hj
    rcases hn.2 with ⟨e, _⟩ | ⟨g, cap, cur, e, hb, hc, _⟩
    · rw [e] at hj; cases hj
    · rw [e] at hj; cases hj; exact ⟨hb, cur, hc⟩
  refine ⟨?_, (hb.alloc hsz _).grown hg (by simp; omega) (fun j hj => (hrow j hj).1), row_move hp ?_⟩
  · unfold NRow
    have e1 : (acc ++ [x]).length = acc.length + 1 := by simp
    have e2 : strs (acc ++ [x]) = strs acc ++ [.string ⟨x.toArray⟩] := by simp [strs]
    rw [e1, e2]
    exact ho
  · intro k c fz hc
    have hlt := (Array.getElem?_eq_some_iff.1 hc).1
    rw [hg.block k (by simp; omega) (fun e => by
      obtain ⟨_, c', hc'⟩ := hrow k e.symm
      rw [hc] at hc'
      cases hc'), Below.heap_alloc _ _ _ hlt]
    exact hc
theorem fold_step (ps : List Pt) (k : Nat) (hk : k < ps.length) : (ps.take (k + 1)).foldl addVar [] = addVar ((ps.take k).foldl addVar []) ps[k] := by
  rw [List.take_succ_eq_append_getElem hk, List.foldl_append]
  rfl
theorem addVar_old (acc : List (List UInt8)) (tx : List UInt8) (c : UInt8) (t : List UInt8) (h : acc.contains (c :: t) = true) : addVar acc (tx, c :: t) = acc := by
  unfold addVar
  rw [h]
  rfl
theorem addVar_new (acc : List (List UInt8)) (tx : List UInt8) (c : UInt8) (t : List UInt8) (h : acc.contains (c :: t) = false) : addVar acc (tx, c :: t) = acc ++ [c :: t] := by
  unfold addVar
  rw [h]
  rfl

set_option maxRecDepth 100000 in
set_option maxHeartbeats 2000000 in
theorem vars_any (B tb : Nat) (v : Value) (ln : Int) (ps : List Pt) (w : World) (htb : w.heap[tb]? = some (.cells #[v, .int .i64 ln] 31 (0, 0))) (hown : w.ownsRow B 62 2 v ps.length (ptCells ps)) (hl : ps.length ≤ 4194304) :
    Calls Tryd.prog 17 #[.slice (some ⟨tb, 0, none⟩) 1 1] w fun e w' => ∃ u, e = .returned u ∧ NRow w.heap.size u (varsOf ps) w' ∧ Below w.heap.size w w' := by
  generalize hT : (fun (e : Ending) (w' : World) => ∃ u, e = .returned u ∧ NRow w.heap.size u (varsOf ps) w' ∧ Below w.heap.size w w') = T
  have hTr : ∀ (e : Ending) (w' : World), (∃ u, e = .returned u ∧ NRow w.heap.size u (varsOf ps) w' ∧ Below w.heap.size w w') → T e w' := fun e w' h => by rw [← hT]; exact h
  have HTr := hide hTr
  obtain ⟨vx, vc, rfl⟩ : ∃ x c, v = .slice x ps.length c := by
    rcases hown.2 with ⟨h1, h2⟩ | ⟨g, cap, cur, h3, _⟩
    · rw [h2]; exact ⟨_, _, h1⟩
    · exact ⟨_, _, h3⟩
  obtain ⟨c0, c1⟩ : w.cell? ⟨tb, 0, none⟩ = some (.slice vx ps.length vc) ∧ w.cell? ⟨tb, 1, none⟩ = some (.int .i64 ln) := ⟨by simp [World.cell?, htb], by simp [World.cell?, htb]⟩
  have htl : tb < w.heap.size := (Array.getElem?_eq_some_iff.1 htb).1
  obtain ⟨i0, hi0, hz0, hz1, hz2⟩ := info_parts info9
  have HO := hide hown
  clear hT hTr htb hown
  go_enter Tryd.func17, Tryd.ntmps17
  go_wp2_with fail
  go_loopw [10, 3] (fun i u wr => (i = .int .i64 0 ∧ u = .slice none 0 0 ∧ wr = w) ∨ (i = .int .i64 1 ∧ NRow w.heap.size u (varsOf ps) wr ∧ Below w.heap.size w wr)) (fun i _ _ => 1 - (intOf i).toNat)
  case atStart => exact .inl ⟨rfl, rfl, rfl⟩
  case round =>
    rcases hrel with ⟨rfl, rfl, rfl⟩ | ⟨rfl, hn, hb⟩
    · go_wp2_with fail
      have HO1 := hide (own_below (unhide HO) ((Below.refl wr.heap.size wr).alloc (Nat.le_refl _) (.cells #[.slice vx ps.length vc, .int .i64 ln] 31)) (Nat.le_refl _))
      have HB1 := hide ((Below.refl wr.heap.size wr).alloc (Nat.le_refl _) (.cells #[.slice vx ps.length vc, .int .i64 ln] 31))
      go_loopw [17, 3] (fun j u wx => ∃ k : Nat, k ≤ ps.length ∧ j = .int .i64 k ∧ NRow wr.heap.size u ((ps.take k).foldl addVar []) wx ∧ ((ps.take k).foldl addVar []).length ≤ k ∧ Below wr.heap.size wr wx ∧ wx.ownsRow B 62 2 (.slice vx ps.length vc) ps.length (ptCells ps)) (fun j _ _ => ps.length - (intOf j).toNat)
      case atStart => exact ⟨0, Nat.zero_le _, rfl, World.ownsRow_nil _ _ _ _, by simp, unhide HB1, unhide HO1⟩
      case round =>
        obtain ⟨k, hk, rfl, hnr, hnl, hbe, hpr⟩ := hrel
        rename World => wi
        by_cases hlt : k < ps.length
        · have hki : (k : Int) < (ps.length : Int) := by omega
          obtain ⟨g, rfl⟩ : ∃ g, vx = some ⟨g, 0, none⟩ := by
            rcases hpr.2 with ⟨_, h2⟩ | ⟨g, cap, cur, h3, _⟩
            · omega
            · cases h3; exact ⟨g, rfl⟩
          obtain ⟨d0, d1⟩ := part_cells hpr k hlt
          have hg : g < wi.heap.size := World.block_lt_of_cell? wi ⟨g, k * 2, none⟩ d0
          have hvc : ps.length ≤ vc := by
            rcases hpr.2 with ⟨h1, _⟩ | ⟨g', cap, cur, h3, _, _, h4, _⟩
            · cases h1
            · cases h3; exact h4
          have hfo := fold_step ps k hlt
          obtain ⟨tx, vr, hpk⟩ : ∃ tx vr, ps[k] = (tx, vr) := ⟨_, _, rfl⟩
          rw [hpk] at d0 d1 hfo
          have hbe0 : wr.heap.size ≤ wi.heap.size := hbe.size
          generalize (ps.take k).foldl addVar [] = acc at *
          have HFo := hide hfo
          have HNr := hide hnr
          have HBe := hide hbe
          have HPr := hide hpr
          clear hnr hbe hpr hfo hpk
          have hal := (Below.refl wi.heap.size wi).alloc (Nat.le_refl _) (.cells #[.string ⟨tx.toArray⟩, .string ⟨vr.toArray⟩] 62)
          have HNr1 : Hid (NRow wr.heap.size u3 acc _) := hide (own_below (unhide HNr) hal (Nat.le_refl _))
          have HPr1 := hide (own_below (unhide HPr) hal (Nat.le_refl _))
          have HBe1 := hide ((unhide HBe).trans (hal.mono hbe0))
          clear hal
          cases vr with
          | nil =>
            go_wp2_with fail
            go_roundw
            case rel => exact ⟨k + 1, by omega, by go_num, by rw [unhide HFo]; exact unhide HNr1, by rw [unhide HFo]; exact Nat.le_succ_of_le hnl, unhide HBe1, unhide HPr1⟩
            case measure => simp [intOf]; omega
          | cons c t =>
            cases hc : acc.contains (c :: t) with
            | true =>
              go_wp2_with (go_at_call 29; refine (contains_any wr.heap.size u3 acc (c :: t) _ (by exact unhide HNr1) (by omega)).mono ?_; rw [hc]; rintro e w' ⟨rfl, rfl⟩)
              go_roundw
              case rel => exact ⟨k + 1, by omega, by go_num, by rw [unhide HFo, addVar_old _ _ _ _ hc]; exact unhide HNr1, by rw [unhide HFo, addVar_old _ _ _ _ hc]; exact Nat.le_succ_of_le hnl, unhide HBe1, unhide HPr1⟩
              case measure => simp [intOf]; omega
            | false =>
              have HX := hide (vars_put (c :: t) (unhide HNr1) (unhide HPr1) (unhide HBe1) (by rw [World.size_alloc]; omega))
              have HC : Hid (∀ (j : Nat) (u : Value), ([.string ⟨(c :: t).toArray⟩] : List Value)[j]? = some u → ((wi.alloc (.cells #[.string ⟨tx.toArray⟩, .string ⟨(c :: t).toArray⟩] 62)).alloc (.cells #[.string ⟨(c :: t).toArray⟩] 9)).cell? ((⟨wi.heap.size + 1, 0, none⟩ : Addr).add j) = some u) := hide (by
                have := cells_new1 (wi.alloc (.cells #[.string ⟨tx.toArray⟩, .string ⟨(c :: t).toArray⟩] 62)) 9 (.string ⟨(c :: t).toArray⟩)
                rwa [World.size_alloc] at this)
              have HNr2 := hide ((unhide HNr1).alloc (.cells #[.string ⟨(c :: t).toArray⟩] 9))
              go_wp2_with (first | (go_at_call 29; refine (contains_any wr.heap.size u3 acc (c :: t) _ (by exact unhide HNr1) (by omega)).mono ?_; rw [hc]; rintro e w' ⟨rfl, rfl⟩) | (at_builtin; refine wpList_append_own _ rfl _ _ 36 rfl wr.heap.size 9 i0 (.string ⟨#[]⟩) 1 16 Tryd.underlying36 hi0 hz0 hz1 hz2 rfl (by decide) u3 acc.length (strs acc) rfl (unhide HNr2) ⟨wi.heap.size + 1, 0, none⟩ 1 1 [.string ⟨(c :: t).toArray⟩] rfl rfl (unhide HC) (by simp [Value.oneCell']) (by unfold maxLen; omega) (by omega) (by simp; omega) ?_; intro v' w9 hown' hgrow _; have HR9 := hide (unhide HX v' w9 hown' hgrow); clear hown' hgrow))
              go_roundw
              case rel => exact ⟨k + 1, by omega, by go_num, by rw [unhide HFo, addVar_new _ _ _ _ hc]; exact (unhide HR9).1, by rw [unhide HFo, addVar_new _ _ _ _ hc]; simp; omega, (unhide HR9).2.1, (unhide HR9).2.2⟩
              case measure => simp [intOf]; omega
        · have hki : decide ((k : Int) < (ps.length : Int)) = false := decide_eq_false (by omega)
          go_wp2_with fail
          go_roundw
          case rel =>
            obtain rfl : k = ps.length := by omega
            rw [List.take_length] at hnr
            exact .inr ⟨by go_num, hnr, hbe⟩
          case measure => simp [intOf]
    · go_wp2_with fail
      exact unhide HTr _ _ ⟨_, rfl, hn, hb⟩
end Go.Proofs.Qxb6613649aDoor
