import Derived.Test.Qxb6614301aFmtKit
namespace Go.Proofs.Qxb6614301aFmt
open Go.RowKit

/-- The first n bytes of x behind place i, as cells. -/
def sbytes (x : ByteArray) (n : Nat) : List Value := (x.data.toList.take n).map fun b => .int .u8 b.toNat
theorem sbytes_len (x : ByteArray) (n : Nat) (h : n ≤ x.size) : (sbytes x n).length = n := by
  have : x.data.toList.length = x.size := by simp
  simp [sbytes]; omega
theorem sbytes_one (x : ByteArray) (n : Nat) : ∀ v ∈ sbytes x n, v.oneCell' = true := by
  intro v hv
  simp only [sbytes, List.mem_map] at hv
  obtain ⟨b, _, rfl⟩ := hv
  rfl

theorem run_copy_string {P : Program} (w : World) (dT sT ty elem : TypeId) (g o dLen dCap : Nat) (x : ByteArray) (cur : List Value) (t : TypeId) (n : Nat)
    (hu : P.underlying dT = some (.slice elem)) (hs : (P.info? elem).map (·.size) = some 1)
    (hg : w.heap[g]? = some (.cells cur.toArray t (0, 0))) (hn : n = Nat.min x.size dLen) (hfit : o + n ≤ cur.length) :
    (Builtin.copy_ #[dT, sT] ty #[.slice (some ⟨g, o, none⟩) dLen dCap, .string x]).run P w = .ok (goInt n) (w.setRow g (splice cur o (sbytes x n)).toArray) := by
  have hnx : n ≤ x.size := by rw [hn]; exact Nat.min_le_left _ _
  have hl := sbytes_len x n hnx
  have hst := run_storeCells_at P g o t (sbytes x n) 0 cur.toArray w hg (by simpa [hl] using hfit) (sbytes_one x n)
  have e : ((x.extract 0 n).data.map fun b => (Value.int .u8 b.toNat : Value)).toList = sbytes x n := by
    simp [sbytes, ByteArray.data_extract]
  cases hq : P.info? elem with
  | none => simp [hq] at hs
  | some i =>
    have hi : i.size = 1 := by simpa [hq] using hs
    have e2 : splice cur o (sbytes x n) = cur.take o ++ sbytes x n ++ cur.drop (o + (sbytes x n).length) := by simp [splice]
    rw [e2]
    have hst' := hst
    simp only [Nat.add_zero] at hst'
    have hmin : Nat.min x.size dLen = n := hn.symm
    simp only [sbytes] at hst' ⊢
    simp [Builtin.copy_, run_underlying hu, Builtin.lenOf, Builtin.firstCells, sizeOf, typeInfo, hq, hmin]
    simp at hst'
    rw [hst']
    simp

theorem step_copy_string {P : Program} {ops : Array Oper} {o : Oper} {a : Act} {w : World} {K : Act → World → Prop} {Q : Exit → Act → World → Prop} {E : Prop} (hgd : o.guard = none) (d s : Operand) (dT sT : TypeId)
    (ho : o.op = .call { callee := .builtin .copy, args := #[d, s], argTypes := #[dT, sT] }) (elem : TypeId) (hu : P.underlying dT = some (.slice elem)) (hsz : (P.info? elem).map (·.size) = some 1)
    (g off dLen dCap : Nat) (x : ByteArray) (hd : a.eval d = .slice (some ⟨g, off, none⟩) dLen dCap) (hs : a.eval s = .string x)
    (cur : List Value) (t : TypeId) (hg : w.heap[g]? = some (.cells cur.toArray t (0, 0))) (n : Nat) (hn : n = Nat.min x.size dLen) (hfit : off + n ≤ cur.length)
    (h : K (a.put o.dst (goInt n)) (w.setRow g (splice cur off (sbytes x n)).toArray)) :
    if Region.wanted o (yielded ops a.tmps) = true then Oper.wp P o a w K Q else E := by
  have hw : Region.wanted o (yielded ops a.tmps) = true := by simp [Region.wanted, hgd]
  rw [if_pos hw]
  have hrun := run_copy_string (P := P) w dT sT o.type elem g off dLen dCap x cur t n hu hsz hg hn hfit
  unfold Oper.wp
  simp [execOp, ho, resolve, invoke, builtin, hd, hs, hrun, Result.andThen]
  exact h

theorem step_copy_row {P : Program} {ops : Array Oper} {o : Oper} {a : Act} {w : World} {K : Act → World → Prop} {Q : Exit → Act → World → Prop} {E : Prop} (hgd : o.guard = none) (d s : Operand) (dT sT : TypeId)
    (ho : o.op = .call { callee := .builtin .copy, args := #[d, s], argTypes := #[dT, sT] }) (elem : TypeId) (hu : P.underlying dT = some (.slice elem)) (hsz : (P.info? elem).map (·.size) = some 1)
    (g off dLen dCap : Nat) (ad : Addr) (sLen sCap : Nat) (hd : a.eval d = .slice (some ⟨g, off, none⟩) dLen dCap) (hs : a.eval s = .slice (some ad) sLen sCap)
    (cur : List Value) (t : TypeId) (hg : w.heap[g]? = some (.cells cur.toArray t (0, 0))) (cs : List Value) (hn : cs.length = Nat.min sLen dLen)
    (hsrc : ∀ j v, cs[j]? = some v → w.cell? (ad.add j) = some v) (hfit : off + cs.length ≤ cur.length) (h1 : ∀ v ∈ cs, v.oneCell' = true)
    (h : K (a.put o.dst (goInt cs.length)) (w.setRow g (splice cur off cs).toArray)) :
    if Region.wanted o (yielded ops a.tmps) = true then Oper.wp P o a w K Q else E := by
  have hw : Region.wanted o (yielded ops a.tmps) = true := by simp [Region.wanted, hgd]
  rw [if_pos hw]
  have hrun := run_copy_row (P := P) w dT sT o.type elem g off dLen dCap ad sLen sCap cur.toArray t cs hu hsz hg hn hsrc (by simpa using hfit) h1
  have e2 : splice cur off cs = cur.toArray.toList.take off ++ cs ++ cur.toArray.toList.drop (off + cs.length) := by simp [splice]
  rw [e2] at h
  unfold Oper.wp
  simp [execOp, ho, resolve, invoke, builtin, hd, hs, hrun, Result.andThen]
  show K _ _
  simpa using h

/-- The strings.Reader sb stands at place i of s. -/
def SR (sb : Nat) (s : ByteArray) (i : Nat) (w : World) : Prop := ∃ pr : Int, w.heap[sb]? = some (.cells #[.string s, .int .i64 i, .int .i64 pr] 52 (0, 0))
theorem SR.cells {sb : Nat} {s : ByteArray} {i : Nat} {w : World} (h : SR sb s i w) : ∃ pr : Int, w.cell? ⟨sb, 0, none⟩ = some (.string s) ∧ w.cell? ⟨sb, 1, none⟩ = some (.int .i64 i) ∧ w.cell? ⟨sb, 2, none⟩ = some (.int .i64 pr) ∧ w.frozen? ⟨sb, 1, none⟩ = false ∧ w.frozen? ⟨sb, 2, none⟩ = false := by
  obtain ⟨pr, h⟩ := h
  exact ⟨pr, by simp [World.cell?, h], by simp [World.cell?, h], by simp [World.cell?, h], by simp [World.frozen?, h], by simp [World.frozen?, h]⟩

set_option maxRecDepth 100000 in
theorem strRead_eof (ea : Addr) (sb : Nat) (s : ByteArray) (v : Value) (w : World) (h : SR sb s s.size w) (h0 : w.cell? ⟨0, 0, none⟩ = some (eofV ea)) :
    Calls Tryf.prog 89 #[.pointer (some ⟨sb, 0, none⟩), v] w fun e w' => e = .returned (.tuple #[.int .i64 0, eofV ea]) ∧ ∃ n, w' = w.drewN n := by
  obtain ⟨pr, c0, c1, c2, f1, f2⟩ := h.cells
  clear h
  unfold eofV at h0 ⊢
  go_enter Tryf.func89, Tryf.ntmps89
  go_wp2_with fail
  go_quiet (fail)
  go_wp2_with fail
  go_quiet (fail)
  go_wp2_with fail
  refine bodyPost_ret (results_tmp2 rfl _ _ _) rfl ⟨rfl, ?_⟩
  exact ⟨_, World.drewN_drewN _ _ _⟩

theorem info5 : (Tryf.prog.info? 5).map (·.size) = some 1 := by kernel_rfl

set_option maxRecDepth 100000 in
set_option maxHeartbeats 1000000 in
theorem strRead_some (sb bb W dcap i n : Nat) (s : ByteArray) (bs : List Value) (w : World) (h : SR sb s i w) (hb : w.heap[bb]? = some (.cells bs.toArray 5 (0, 0))) (hl : bs.length = 4096) (hW : W ≤ 4096) (hi : i < s.size) (hs : s.size ≤ 2097152) (hn : n = Nat.min (s.size - i) (4096 - W)) :
    Calls Tryf.prog 89 #[.pointer (some ⟨sb, 0, none⟩), .slice (some ⟨bb, W, none⟩) (4096 - W) dcap] w fun e w' => e = .returned (.tuple #[.int .i64 n, .nilIface]) ∧
      SR sb s (i + n) w' ∧ w'.heap[bb]? = some (.cells (splice bs W (sbytes (s.extract i s.size) n)).toArray 5 (0, 0)) ∧ Tch [sb, bb] w w' := by
  have hsn : sb ≠ bb := by
    intro e
    subst e
    obtain ⟨pr, h⟩ := h
    rw [h] at hb
    cases hb
  obtain ⟨pr, c0, c1, c2, f1, f2⟩ := h.cells
  have HS := hide h
  have hii : (i : Int) ≤ (s.size : Int) := by omega
  have hd : decide ((s.size : Int) ≤ (i : Int)) = false := decide_eq_false (by omega)
  have hxs : (s.extract i s.size).size = s.size - i := by simp
  have hnle : n ≤ 4096 - W := by rw [hn]; exact Nat.min_le_right _ _
  have hnle2 : n ≤ s.size - i := by rw [hn]; exact Nat.min_le_left _ _
  have HBb := hide hb
  have HF : Hid (W + n ≤ bs.length) := hide (by omega)
  have HN : Hid (n = Nat.min (s.extract i s.size).size (4096 - W)) := hide (by rw [hxs]; exact hn)
  obtain ⟨M, hM⟩ : ∃ M, i + n = M := ⟨_, rfl⟩
  have hin : (i : Int) + (n : Int) = (M : Int) := by omega
  have hin2 : M ≤ 2097152 := by omega
  have HM := hide hM
  clear h hb hl hn hxs hnle hnle2 hM
  go_enter Tryf.func89, Tryf.ntmps89
  go_wp2_with fail
  go_quiet (fail)
  go_wp2_with fail
  have hs1 : ((w.drewN nq).setCell ⟨sb, 2, none⟩ (.int .i64 (-1))).heap[sb]? = some (.cells #[.string s, .int .i64 i, .int .i64 (-1)] 52 (0, 0)) := by
    obtain ⟨pr, h⟩ := unhide HS
    exact set_block (w := w.drewN nq) h _
  have hb1 : ((w.drewN nq).setCell ⟨sb, 2, none⟩ (.int .i64 (-1))).heap[bb]? = some (.cells bs.toArray 5 (0, 0)) := (Below.heap_setCell _ _ _ _ (Ne.symm hsn)).trans (unhide HBb)
  have ht1 : Tch [sb, bb] w ((w.drewN nq).setCell ⟨sb, 2, none⟩ (.int .i64 (-1))) := ((Tch.refl _ w).drewN nq).setCell (by simp) _
  generalize (w.drewN nq).setCell ⟨sb, 2, none⟩ (.int .i64 (-1)) = w1 at *
  obtain ⟨d0, d1, g1⟩ : w1.cell? ⟨sb, 0, none⟩ = some (.string s) ∧ w1.cell? ⟨sb, 1, none⟩ = some (.int .i64 i) ∧ w1.frozen? ⟨sb, 1, none⟩ = false := ⟨by simp [World.cell?, hs1], by simp [World.cell?, hs1], by simp [World.frozen?, hs1]⟩
  obtain ⟨R, hR⟩ : ∃ R, splice bs W (sbytes (s.extract i s.size) n) = R := ⟨_, rfl⟩
  have HG : Hid (w1.drew.heap[bb]? = some (.cells bs.toArray 5 (0, 0))) := hide hb1
  have hs2 : (w1.drew.setRow bb R.toArray).heap[sb]? = some (.cells #[.string s, .int .i64 i, .int .i64 (-1)] 52 (0, 0)) := (setRow_other _ _ _ _ hsn).trans hs1
  have hb2 : (w1.drew.setRow bb R.toArray).heap[bb]? = some (.cells R.toArray 5 (0, 0)) := setRow_heap w1.drew bb _ _ 5 (0, 0) hb1
  have ht2 : Tch [sb, bb] w (w1.drew.setRow bb R.toArray) := ht1.drew.setRow (by simp) _
  have HR := hide hR
  have HS2 := hide hs2
  have HB2 := hide hb2
  have HT2 := hide ht2
  clear hs1 hb1 ht1 hs2 hb2 ht2 hR c0 c1 c2 f1 f2
  go_region_law (refine step_copy_string rfl (.tmp 20) (.tmp 29) 60 9 rfl 5 Tryf.underlying60 info5 bb W (4096 - W) dcap (s.extract i s.size) (by simp [Act.eval, Act.put]) (by simp [Act.eval, Act.put]) bs 5 (unhide HG) n (unhide HN) (unhide HF) ?_; rw [unhide HR])
  all_goals
    generalize w1.drew.setRow bb R.toArray = w2 at *
    obtain ⟨e1, q1⟩ : w2.cell? ⟨sb, 1, none⟩ = some (.int .i64 i) ∧ w2.frozen? ⟨sb, 1, none⟩ = false := ⟨by simp [World.cell?, unhide HS2], by simp [World.frozen?, unhide HS2]⟩
    go_wp2_with fail
    rw [unhide HM, unhide HR]
    refine bodyPost_ret (results_tmp2 rfl _ _ _) rfl ⟨rfl, ⟨-1, ?_⟩, ?_, (unhide HT2).setCell (by simp) _⟩
    · exact set_block (unhide HS2) _
    · rw [set_other (Ne.symm hsn)]
      exact unhide HB2
end Go.Proofs.Qxb6614301aFmt
