import Derived.Test.Qxb6613049aFmtW13
namespace Go.Proofs.Qxb6613049aFmt
open Go.RowKit Go.Stop

/-- The strings of a candidate list, to be read. -/
def Cand (v : Value) (n : Nat) (w : World) : Prop := ∃ p c, v = .slice p n c ∧ n ≤ 4194304 ∧ ∀ i, i < n → ∃ g s, p = some ⟨g, 0, none⟩ ∧ w.cell? ⟨g, i, none⟩ = some (.string s)
theorem Cand.below {v : Value} {n : Nat} {w w' : World} (h : Cand v n w) (hb : Below w.heap.size w w') : Cand v n w' := by
  obtain ⟨p, c, h1, h2, h3⟩ := h
  refine ⟨p, c, h1, h2, fun i hi => ?_⟩
  obtain ⟨g, s, h4, h5⟩ := h3 i hi
  exact ⟨g, s, h4, cell_later hb h5⟩
theorem SRow.cand {B n : Nat} {v : Value} {w : World} (h : SRow B v n w) (hn : n ≤ 4194304) : Cand v n w := by
  obtain ⟨xs, ⟨hl, hown⟩, hstr⟩ := h
  rcases hown with ⟨h1, h2⟩ | ⟨g, cap, cur, h3, h4, h5, h6, h7, h8, h9⟩
  · exact ⟨none, 0, by rw [h1, h2], hn, fun i hi => by omega⟩
  · refine ⟨some ⟨g, 0, none⟩, cap, h3, hn, fun i hi => ?_⟩
    have hx : i < xs.length := by omega
    obtain ⟨s, hs⟩ := hstr xs[i] (List.getElem_mem hx)
    refine ⟨g, s, rfl, ?_⟩
    have hc : cur[i]? = some xs[i] := by
      have h10 : (cur.toList.take (n * 1))[i]? = some xs[i] := by rw [h9]; exact List.getElem?_eq_getElem hx
      rw [List.getElem?_take_of_lt (by omega)] at h10
      simpa using h10
    simp [World.cell?, h5, hc, hs]

/-- A look into the map field, whichever. -/
theorem mp_look {ps : Ps} {pm : Value} {w : World} (h : MP ps pm w) (key : ByteArray) : ∃ mp, pm = .map mp ∧ (Instr.lookup 37 (.map mp) (.string key) true).run Tryf.prog w = .ok (.tuple #[(lookV ps key).1, .bool (lookV ps key).2]) w := by
  rcases h with ⟨rfl, rfl⟩ | ⟨_, r, rfl, hm⟩
  · exact ⟨none, rfl, run_look_nil key w⟩
  · exact ⟨some r, rfl, run_look ps key r w hm⟩
theorem mp_nil {ps : Ps} {mp : Option Nat} {w : World} (h : MP ps (.map mp) w) : (binOp .eql 37 (.map mp) (.map none)).run Tryf.prog w = .ok (.bool ps.isEmpty) w := by
  rcases h with ⟨rfl, h⟩ | ⟨hne, r, h, hm⟩
  · cases h
    exact run_eql_map_nil w 37 9 9 none Tryf.underlying37
  · cases h
    have : ps.isEmpty = false := by
      cases hx : ps.isEmpty with
      | false => rfl
      | true => exact absurd (by simpa using hx) hne
    rw [this]
    exact run_eql_map_nil w 37 9 9 (some r) Tryf.underlying37
theorem mp_len {ps : Ps} {mp : Option Nat} {w : World} (h : MP ps (.map mp) w) (ty : TypeId) : (Builtin.len_ #[37] ty #[.map mp]).run Tryf.prog w = .ok (.int .i64 ps.length) w := by
  rcases h with ⟨rfl, h⟩ | ⟨hne, r, h, hm⟩
  · cases h
    simp [Builtin.len_, run_underlying Tryf.underlying37, goInt]
  · cases h
    simp [Builtin.len_, run_underlying Tryf.underlying37, MapKept.run_getObj_map hm, goInt, ents_size]

set_option maxRecDepth 100000 in
set_option maxHeartbeats 2000000 in
theorem same_any (sch tok : List UInt8) (ps : Ps) (pm1 pm2 cv : Value) (n : Nat) (w : World) (h1 : MP ps pm1 w) (h2 : MP ps pm2 w) (hc : Cand cv n w) :
    Calls Tryf.prog 15 #[.agg #[.string ⟨sch.toArray⟩, .string ⟨tok.toArray⟩, pm1], .agg #[.string ⟨sch.toArray⟩, .string ⟨tok.toArray⟩, pm2], cv] w fun e w' => e = .returned (.bool true) ∧ Below w.heap.size w w' := by
  obtain ⟨m1, rfl⟩ : ∃ m, pm1 = .map m := by obtain ⟨m, h, _⟩ := mp_look h1 ⟨#[]⟩; exact ⟨m, h⟩
  obtain ⟨m2, rfl⟩ : ∃ m, pm2 = .map m := by obtain ⟨m, h, _⟩ := mp_look h2 ⟨#[]⟩; exact ⟨m, h⟩
  obtain ⟨p, c, rfl, hn, hcells⟩ := hc
  have hk : ∀ o o', Below w.heap.size w ((w.alloc o).alloc o') := fun o o' => ((Below.refl _ w).alloc (Nat.le_refl _) o).alloc (by simp) o'
  have hq1 : ∀ o o' q, MP ps (.map m1) (((w.alloc o).alloc o').drewN q) := fun o o' q => h1.keeps (MK.below (below_drewN (hk o o') q))
  have hq2 : ∀ o o' q, MP ps (.map m2) (((w.alloc o).alloc o').drewN q) := fun o o' q => h2.keeps (MK.below (below_drewN (hk o o') q))
  have hn1 := fun o o' => mp_nil (h1.keeps (MK.below (hk o o')))
  have hn2 := fun o o' => mp_nil (h2.keeps (MK.below (hk o o')))
  have hl1 := fun o o' ty => mp_len (h1.keeps (MK.below (hk o o'))) ty
  have hl2 := fun o o' ty => mp_len (h2.keeps (MK.below (hk o o'))) ty
  have HQ1 := hide hq1
  have HQ2 := hide hq2
  have HCe := hide hcells
  have HK := hide hk
  clear hq1 hq2 hcells hk h1 h2
  go_enter Tryf.func15, Tryf.ntmps15
  go_wp2_with fail
  have c1 : ((w.alloc (.cells #[.string ⟨sch.toArray⟩, .string ⟨tok.toArray⟩, .map m1] 39)).alloc (.cells #[.string ⟨sch.toArray⟩, .string ⟨tok.toArray⟩, .map m2] 39)).cell? ⟨w.heap.size, 2, none⟩ = some (.map m1) := by go_simp
  have c2 : ((w.alloc (.cells #[.string ⟨sch.toArray⟩, .string ⟨tok.toArray⟩, .map m1] 39)).alloc (.cells #[.string ⟨sch.toArray⟩, .string ⟨tok.toArray⟩, .map m2] 39)).cell? ⟨w.heap.size + 1, 2, none⟩ = some (.map m2) := by go_simp
  generalize hW : (w.alloc (.cells #[.string ⟨sch.toArray⟩, .string ⟨tok.toArray⟩, .map m1] 39)).alloc (.cells #[.string ⟨sch.toArray⟩, .string ⟨tok.toArray⟩, .map m2] 39) = W at c1 c2 ⊢
  have hbW : Below w.heap.size w W := by rw [← hW]; exact unhide HK _ _
  have hM1 : ∀ q, MP ps (.map m1) (W.drewN q) := fun q => by rw [← hW]; exact unhide HQ1 _ _ q
  have hM2 : ∀ q, MP ps (.map m2) (W.drewN q) := fun q => by rw [← hW]; exact unhide HQ2 _ _ q
  have HM1 := hide hM1
  have HM2 := hide hM2
  have HBW := hide hbW
  clear hn1 hn2 hl1 hl2 HQ1 HQ2 HK hW hM1 hM2 hbW
  go_loopw [7, 8, 9, 10, 11] (fun i _ _ _ _ wr => ∃ k q : Nat, k ≤ n ∧ i = .int .i64 k ∧ wr = W.drewN q) (fun i _ _ _ _ _ => n - (intOf i).toNat)
  case atStart => exact ⟨0, 0, Nat.zero_le _, rfl, rfl⟩
  case round =>
    obtain ⟨k, q, hk, rfl, rfl⟩ := hrel
    by_cases hlt : k < n
    · obtain ⟨g, key, rfl, hcell0⟩ := unhide HCe k hlt
      have hcell : W.cell? ⟨g, k, none⟩ = some (.string key) := cell_later (unhide HBW) hcell0
      have hk1 : ∀ q, (Instr.lookup 37 (.map m1) (.string key) true).run Tryf.prog (W.drewN q) = .ok (.tuple #[(lookV ps key).1, .bool (lookV ps key).2]) (W.drewN q) := fun q => by
        obtain ⟨mp, e, h⟩ := mp_look (unhide HM1 q) key
        cases e; exact h
      have hk2 : ∀ q, (Instr.lookup 37 (.map m2) (.string key) true).run Tryf.prog (W.drewN q) = .ok (.tuple #[(lookV ps key).1, .bool (lookV ps key).2]) (W.drewN q) := fun q => by
        obtain ⟨mp, e, h⟩ := mp_look (unhide HM2 q) key
        cases e; exact h
      obtain ⟨sv, hsv, _⟩ := (lookV_spec ps key).2
      rw [hsv] at hk1 hk2
      generalize (lookV ps key).2 = ok at *
      go_wp2_with fail
      go_quiet (fail)
      go_wp2_with fail
      go_quiet (fail)
      go_wp2_with fail
      go_roundw
      case rel => exact ⟨k + 1, _, by omega, by go_num, rfl⟩
      case measure => simp [intOf]; omega
    · go_wp2_with fail
      go_ret
      exact ⟨rfl, below_drewN (unhide HBW) q⟩
end Go.Proofs.Qxb6613049aFmt
