import Derived.Test.Qxb6614301aFmtW11
namespace Go.Proofs.Qxb6614301aFmt
open Go.RowKit

set_option maxRecDepth 100000 in
theorem strReader_any (s : ByteArray) (w : World) :
    Calls Tryf.prog 16 #[.string s] w fun e w' => e = .returned (.pointer (some ⟨w.heap.size, 0, none⟩)) ∧ w' = w.alloc (.cells #[.string s, .int .i64 0, .int .i64 (-1)] 52 (0, 0)) := by
  go_enter Tryf.func16, Tryf.ntmps16
  go_wp2_with fail
  go_ret
  exact ⟨rfl, rfl⟩

theorem seven {rb : Nat} {w : World} {c0 c1 c2 c3 c4 c5 c6 : Value} (h : w.heap[rb]? = some (.cells #[c0, c1, c2, c3, c4, c5, c6] 70 (0, 0))) :
    (w.cell? ⟨rb, 0, none⟩ = some c0 ∧ w.cell? ⟨rb, 1, none⟩ = some c1 ∧ w.cell? ⟨rb, 2, none⟩ = some c2 ∧ w.cell? ⟨rb, 3, none⟩ = some c3 ∧ w.cell? ⟨rb, 4, none⟩ = some c4 ∧ w.cell? ⟨rb, 5, none⟩ = some c5 ∧ w.cell? ⟨rb, 6, none⟩ = some c6) ∧
    w.frozen? ⟨rb, 0, none⟩ = false ∧ w.frozen? ⟨rb, 1, none⟩ = false ∧ w.frozen? ⟨rb, 2, none⟩ = false ∧ w.frozen? ⟨rb, 3, none⟩ = false ∧ w.frozen? ⟨rb, 4, none⟩ = false ∧ w.frozen? ⟨rb, 5, none⟩ = false ∧ w.frozen? ⟨rb, 6, none⟩ = false :=
  ⟨⟨by simp [World.cell?, h], by simp [World.cell?, h], by simp [World.cell?, h], by simp [World.cell?, h], by simp [World.cell?, h], by simp [World.cell?, h], by simp [World.cell?, h]⟩, by simp [World.frozen?, h], by simp [World.frozen?, h], by simp [World.frozen?, h], by simp [World.frozen?, h], by simp [World.frozen?, h], by simp [World.frozen?, h], by simp [World.frozen?, h]⟩

theorem reset7 {rb : Nat} {w : World} {c0 c1 c2 c3 c4 c5 c6 : Value} (h : w.heap[rb]? = some (.cells #[c0, c1, c2, c3, c4, c5, c6] 70 (0, 0))) (v0 v1 v2 v3 v4 v5 v6 : Value) :
    (((((((w.setCell ⟨rb, 0, none⟩ v0).setCell ⟨rb, 1, none⟩ v1).setCell ⟨rb, 2, none⟩ v2).setCell ⟨rb, 3, none⟩ v3).setCell ⟨rb, 4, none⟩ v4).setCell ⟨rb, 5, none⟩ v5).setCell ⟨rb, 6, none⟩ v6).heap[rb]? = some (.cells #[v0, v1, v2, v3, v4, v5, v6] 70 (0, 0)) ∧
    Tch [rb] w (((((((w.setCell ⟨rb, 0, none⟩ v0).setCell ⟨rb, 1, none⟩ v1).setCell ⟨rb, 2, none⟩ v2).setCell ⟨rb, 3, none⟩ v3).setCell ⟨rb, 4, none⟩ v4).setCell ⟨rb, 5, none⟩ v5).setCell ⟨rb, 6, none⟩ v6) :=
  have hm : rb ∈ [rb] := by simp
  ⟨(set_block (set_block (set_block (set_block (set_block (set_block (set_block h v0) v1) v2) v3) v4) v5) v6).trans (by simp),
   (((((((Tch.refl [rb] w).setCell hm v0).setCell hm v1).setCell hm v2).setCell hm v3).setCell hm v4).setCell hm v5).setCell hm v6⟩

set_option maxRecDepth 100000 in
theorem reset_any (rb bb sb : Nat) (w : World) (c0 c1 c2 c3 c4 c5 c6 : Value) (h : w.heap[rb]? = some (.cells #[c0, c1, c2, c3, c4, c5, c6] 70 (0, 0))) :
    Calls Tryf.prog 32 #[.pointer (some ⟨rb, 0, none⟩), .slice (some ⟨bb, 0, none⟩) 4096 4096, .iface 40 (.pointer (some ⟨sb, 0, none⟩))] w fun e w' => e = .returned (.tuple #[]) ∧ w'.heap[rb]? = some (.cells #[.slice (some ⟨bb, 0, none⟩) 4096 4096, .iface 40 (.pointer (some ⟨sb, 0, none⟩)), .int .i64 0, .int .i64 0, .nilIface, .int .i64 (-1), .int .i64 (-1)] 70 (0, 0)) ∧ Tch [rb] w w' := by
  obtain ⟨⟨a0, a1, a2, a3, a4, a5, a6⟩, b0, b1, b2, b3, b4, b5, b6⟩ := seven h
  have HH := hide h
  clear h
  go_enter Tryf.func32, Tryf.ntmps32
  go_wp2_with fail
  go_end0
  exact ⟨rfl, reset7 (unhide HH) _ _ _ _ _ _ _⟩

theorem ta38 (a : Addr) (w : World) : (Instr.typeAssert (.iface 40 (.pointer (some a))) 49 38 true).run Tryf.prog w = .ok (.tuple #[.pointer none, .bool false]) w := by kernel_rfl
theorem info5z : (Tryf.prog.info? 5).map (fun i => (i.zero, i.size, i.bytes)) = some (some (.int .u8 0), 1, 1) := by kernel_rfl
theorem mk4096 : ∃ bs : List Value, bs.length = 4096 ∧ ∀ w, (Instr.makeSlice 60 (.int .i64 4096) (.int .i64 4096)).run Tryf.prog w = .ok (.slice (some ⟨w.heap.size, 0, none⟩) 4096 4096) (w.alloc (.cells bs.toArray 5 (0, 0))) := by
  obtain ⟨i, hi, he⟩ := Option.map_eq_some_iff.1 info5z
  simp only [Prod.mk.injEq] at he
  obtain ⟨hz, hs, hb⟩ := he
  refine ⟨(madeCells (Value.int .u8 0).cells ((4096 : Int).toNat * i.size)).toList, ?_, fun w => ?_⟩
  · rw [Array.length_toList, size_madeCells, hs]; rfl
  · have := run_make (P := Tryf.prog) w 60 5 i (.int .u8 0) Tryf.underlying60 hi hz .i64 .i64 4096 4096 (by decide) (by decide) (by rw [hb]; decide) (by decide)
    rw [this]
    rfl

set_option maxRecDepth 100000 in
theorem newSize_any (sb : Nat) (w : World) :
    Calls Tryf.prog 19 #[.iface 40 (.pointer (some ⟨sb, 0, none⟩)), .int .i64 4096] w fun e w' => e = .returned (.pointer (some ⟨w.heap.size, 0, none⟩)) ∧ Tch [] w w' ∧ w'.heap[w.heap.size]? = some (.cells #[.slice (some ⟨w.heap.size + 1, 0, none⟩) 4096 4096, .iface 40 (.pointer (some ⟨sb, 0, none⟩)), .int .i64 0, .int .i64 0, .nilIface, .int .i64 (-1), .int .i64 (-1)] 70 (0, 0)) ∧ ∃ bs : List Value, bs.length = 4096 ∧ w'.heap[w.heap.size + 1]? = some (.cells bs.toArray 5 (0, 0)) := by
  have h38 := ta38 ⟨sb, 0, none⟩
  obtain ⟨bs, hbs, hmk⟩ := mk4096
  have HB := hide hbs
  have hmx : max (4096 : Int) 16 = 4096 := by decide
  clear hbs
  go_enter Tryf.func19, Tryf.ntmps19
  go_wp2_with fail
  refine (reset_any w.heap.size (w.heap.size + 1) sb ((w.alloc (.cells #[.slice none 0 0, .nilIface, .int .i64 0, .int .i64 0, .nilIface, .int .i64 0, .int .i64 0] 70 (0, 0))).alloc (.cells bs.toArray 5 (0, 0))) (.slice none 0 0) .nilIface (.int .i64 0) (.int .i64 0) .nilIface (.int .i64 0) (.int .i64 0) (by
    show ((w.heap.push _).push _)[w.heap.size]? = some (.cells #[.slice none 0 0, .nilIface, .int .i64 0, .int .i64 0, .nilIface, .int .i64 0, .int .i64 0] 70 (0, 0))
    rw [Array.getElem?_push_lt (by simp)]
    simp)).mono ?_
  rintro e w' ⟨rfl, h1, h2⟩
  have HP : Hid (Tch [] w w' ∧ w'.heap[w.heap.size]? = some (.cells #[.slice (some ⟨w.heap.size + 1, 0, none⟩) 4096 4096, .iface 40 (.pointer (some ⟨sb, 0, none⟩)), .int .i64 0, .int .i64 0, .nilIface, .int .i64 (-1), .int .i64 (-1)] 70 (0, 0)) ∧ ∃ bs : List Value, bs.length = 4096 ∧ w'.heap[w.heap.size + 1]? = some (.cells bs.toArray 5 (0, 0))) := hide (by
    refine ⟨?_, h1, bs, unhide HB, ?_⟩
    · have h3 : Tch [] w ((w.alloc (.cells #[.slice none 0 0, .nilIface, .int .i64 0, .int .i64 0, .nilIface, .int .i64 0, .int .i64 0] 70 (0, 0))).alloc (.cells bs.toArray 5 (0, 0))) := ((Tch.refl [] w).alloc _).alloc _
      exact ⟨h2.os.trans h3.os, h2.tape.trans h3.tape, h2.output.trans h3.output, Nat.le_trans h3.size h2.size, fun k hk hn => (h2.block k (Nat.lt_of_lt_of_le hk h3.size) (by simp; omega)).trans (h3.block k hk hn)⟩
    · refine h2.at (k := w.heap.size + 1) ?_ (by simp)
      show ((w.heap.push _).push _)[w.heap.size + 1]? = _
      rw [Array.getElem?_push, if_pos (by simp)])
  clear h1 h2 hmk h38 hmx
  go_wp2_with fail
  go_ret
  exact ⟨rfl, unhide HP⟩

set_option maxRecDepth 100000 in
theorem newReader_any (sb : Nat) (w : World) :
    Calls Tryf.prog 15 #[.iface 40 (.pointer (some ⟨sb, 0, none⟩))] w fun e w' => e = .returned (.pointer (some ⟨w.heap.size, 0, none⟩)) ∧ Tch [] w w' ∧ w'.heap[w.heap.size]? = some (.cells #[.slice (some ⟨w.heap.size + 1, 0, none⟩) 4096 4096, .iface 40 (.pointer (some ⟨sb, 0, none⟩)), .int .i64 0, .int .i64 0, .nilIface, .int .i64 (-1), .int .i64 (-1)] 70 (0, 0)) ∧ ∃ bs : List Value, bs.length = 4096 ∧ w'.heap[w.heap.size + 1]? = some (.cells bs.toArray 5 (0, 0)) := by
  go_enter Tryf.func15, Tryf.ntmps15
  go_wp2_with fail
  refine (newSize_any sb w).mono ?_
  rintro e w' ⟨rfl, h⟩
  have HP := hide h
  clear h
  go_wp2_with fail
  go_ret
  exact ⟨rfl, unhide HP⟩

/-- What ZZnewParser leaves: a parser of four new blocks, at the text's start. -/
def NPost (ea : Addr) (name s : ByteArray) (L : Int) (w : World) (e : Ending) (w' : World) : Prop :=
  ∃ pb rb sb bb, e = .returned (.pointer (some ⟨pb, 0, none⟩)) ∧ RD ea rb sb bb s 0 w' ∧ PB pb rb name L 0 w' ∧ Tch [] w w' ∧ ∀ k ∈ [pb, rb, sb, bb], w.heap.size ≤ k
set_option maxRecDepth 100000 in
theorem newParser_any (ea : Addr) (name s : ByteArray) (L : Int) (w : World) (h1 : -9223372036854775808 ≤ L) (h2 : L < 9223372036854775808) :
    Calls Tryf.prog 7 #[.string name, .string s, .int .i64 L] w (NPost ea name s L w) := by
  generalize hT : NPost ea name s L w = T
  have HTr := hide (show ∀ (e : Ending) (w' : World), NPost ea name s L w e w' → T e w' from fun e w' h => by rw [← hT]; exact h)
  have hw : wrap64 (L + ((0 : Nat) : Int)) = L := by unfold wrap64; omega
  have HW := hide hw
  clear hw h1 h2 hT
  go_enter Tryf.func7, Tryf.ntmps7
  go_wp2_with fail
  refine (strReader_any s w).mono ?_
  rintro e w1 ⟨rfl, rfl⟩
  obtain ⟨w1, hw1⟩ : ∃ w1, w.alloc (.cells #[.string s, .int .i64 0, .int .i64 (-1)] 52 (0, 0)) = w1 := ⟨_, rfl⟩
  have HA : Hid (Tch [] w w1 ∧ w1.heap.size = w.heap.size + 1 ∧ w1.heap[w.heap.size]? = some (.cells #[.string s, .int .i64 0, .int .i64 (-1)] 52 (0, 0))) := hide (by
    rw [← hw1]
    refine ⟨(Tch.refl [] w).alloc _, ?_, ?_⟩
    · show (w.heap.push _).size = _; simp
    · show (w.heap.push _)[w.heap.size]? = _; simp)
  rw [hw1]
  clear hw1
  go_wp2_with fail
  refine (newReader_any w.heap.size w1).mono ?_
  rintro e w2 ⟨rfl, h⟩
  have HR := hide h
  clear h
  go_wp2_with fail
  refine unhide HTr _ _ ?_
  obtain ⟨k1, k2, k3⟩ := unhide HA
  obtain ⟨k4, k5, bs, k6, k7⟩ := unhide HR
  have k8 : ∀ o, Tch [] w2 (w2.alloc o) := fun o => (Tch.refl [] w2).alloc o
  refine ⟨w2.heap.size, w1.heap.size, w.heap.size, w1.heap.size + 1, rfl, ?_, ?_, (k1.trans k4).alloc _, ?_⟩
  · refine ⟨0, 0, .nilIface, -1, ⟨0, -1, -1, bs, ?_, ?_, ?_, k6, Nat.le_refl _, by omega, rfl, Nat.zero_le _, fun k a b => by omega⟩, .inl rfl⟩
    · exact (k8 _).at k5 (by simp)
    · exact (k8 _).at (k4.at k3 (by simp)) (by simp)
    · exact (k8 _).at k7 (by simp)
  · unfold PB
    rw [unhide HW]
    show (w2.heap.push _)[w2.heap.size]? = _
    simp
  · have a1 := k4.size
    have a2 := k1.size
    intro k hk
    simp only [List.mem_cons, List.not_mem_nil, or_false] at hk
    omega

set_option maxRecDepth 100000 in
theorem bytes9_any (a b : ByteArray) (x : Int) (w : World) :
    Calls Tryf.prog 9 #[.string a, .string b, .int .i64 x] w fun e w' => (∃ r : Bool, e = .returned (.bool r)) ∧ w = w' := by
  go_enter Tryf.func9, Tryf.ntmps9
  go_wp2
  all_goals go_ret
  all_goals exact ⟨⟨_, rfl⟩, rfl⟩
set_option maxRecDepth 100000 in
theorem bytes5_any (a b : ByteArray) (x : Int) (w : World) :
    Calls Tryf.prog 5 #[.string a, .string b, .int .i64 x] w fun e w' => (∃ r : Bool, e = .returned (.bool r)) ∧ w = w' := by
  go_enter Tryf.func5, Tryf.ntmps5
  go_wp2
  all_goals go_ret
  all_goals exact ⟨⟨_, rfl⟩, rfl⟩
end Go.Proofs.Qxb6614301aFmt
