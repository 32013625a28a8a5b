import Derived.Test.Qxb6613049aFmtW11
import Derived.Laws.IdiomStrings
import Derived.Laws.MakeOwn
import Derived.Laws.OwnMore
import Derived.Lib.BufferRead
namespace Go.Proofs.Qxb6613049aFmt
open Go.RowKit Go.Stop

theorem info5 : (Tryf.prog.info? 5).map (fun i => (i.zero, i.size, i.bytes)) = some (some (.int .u8 0), 1, 1) := by kernel_rfl
theorem made_bytes (n : Nat) : madeCells #[.int .u8 0] n = (Lib.byteCells (List.replicate n 0)).toArray := by
  apply Array.toList_inj.1
  rw [toList_madeCells_one]
  simp [Lib.byteCells]
theorem mkBytes (n : Nat) (hn : n ≤ 4194304) (w : World) : (Instr.makeSlice 57 (.int .i64 (n : Int)) (.int .i64 (n : Int))).run Tryf.prog w = .ok (.slice (some ⟨w.heap.size, 0, none⟩) n n) (w.alloc (.cells (Lib.byteCells (List.replicate n 0)).toArray 5)) := by
  obtain ⟨i0, hi, hz0, hz1, hz2⟩ := info_parts info5
  have h := run_make (P := Tryf.prog) w 57 5 i0 (.int .u8 0) Tryf.underlying57 hi hz0 .i64 .i64 n n (by omega) (by omega) (by rw [hz2]; omega) (by omega)
  rw [hz1] at h
  have e1 : (Value.int .u8 0).cells = #[.int .u8 0] := rfl
  rw [e1, Nat.mul_one] at h
  rw [show ((n : Int)).toNat = n by simp, made_bytes] at h
  exact h

/-- A row of bytes of the call's own. -/
def BRow (g : Nat) (l : List UInt8) (w : World) : Prop := w.heap[g]? = some (.cells (Lib.byteCells l).toArray 5 (0, 0))
theorem BRow.set {g : Nat} {l : List UInt8} {w : World} (h : BRow g l w) (i : Nat) (c : UInt8) : BRow g (l.set i c) (w.setCell ⟨g, i, none⟩ (.int .u8 (c.toNat : Int))) := by
  unfold BRow at *
  simp [World.setCell, Array.getElem?_modify, h, Lib.byteCells, List.map_set]
theorem BRow.back {g : Nat} {l : List UInt8} {w : World} (h : BRow g l w) (c : Nat) : (convert 57 9 (.slice (some ⟨g, 0, none⟩) l.length c)).run Tryf.prog w = .ok (.string ⟨l.toArray⟩) w :=
  run_convert_bytes_back w 57 9 5 ⟨g, 0, none⟩ c l Tryf.underlying57 Tryf.underlying5 Tryf.underlying9 (Lib.bytes_of_row h (by rw [List.take_of_length_le (by simp [Lib.byteCells])]))

set_option maxRecDepth 100000 in
set_option maxHeartbeats 1000000 in
theorem zzLower_any (s : ByteArray) (w : World) (hs : s.size ≤ 4194304) :
    Calls Tryf.prog 19 #[.string s] w fun e w' => (∃ t, e = .returned (.string t)) ∧ Below w.heap.size w w' := by
  have hmk := mkBytes s.size hs
  go_enter Tryf.func19, Tryf.ntmps19
  go_wp2_with fail
  go_loopw [4, 5] (fun i _ wr => ∃ (k : Nat) (l : List UInt8), k ≤ s.size ∧ i = .int .i64 k ∧ l.length = s.size ∧ BRow w.heap.size l wr ∧ Below w.heap.size w wr) (fun i _ _ => s.size - (intOf i).toNat)
  case atStart => exact ⟨0, List.replicate s.size 0, Nat.zero_le _, rfl, by simp, Array.getElem?_push_size, (Below.refl _ w).alloc (Nat.le_refl _) _⟩
  case round =>
    obtain ⟨k, l, hk, rfl, hl, hrow, hbe⟩ := hrel
    by_cases hlt : k < s.size
    · have hc : wr.cell? ⟨w.heap.size, k, none⟩ = some (.int .u8 (l[k].toNat : Int)) := by
        have := Lib.bytes_of_row (l := l) hrow (by rw [List.take_of_length_le (by simp [Lib.byteCells])]) k (by omega)
        simpa [Go.WideShapes.add_plain] using this
      have hf : wr.frozen? ⟨w.heap.size, k, none⟩ = false := by
        unfold BRow at hrow
        simp [World.frozen?, hrow]
      have HRow := hide hrow
      have HBe := hide hbe
      clear hrow hbe
      by_cases hup : 65 ≤ s[k].toNat ∧ s[k].toNat ≤ 90
      · have h1 : decide ((65 : Int) ≤ (s[k].toNat : Int)) = true := by simp; omega
        have h2 : decide ((s[k].toNat : Int) ≤ 90) = true := by simp; omega
        have h3 : ((s[k] + 32).toNat : Int) = (s[k].toNat : Int) + 32 := by
          rw [UInt8.toNat_add]; simp; omega
        go_wp2_with fail
        go_roundw
        case rel =>
          refine ⟨k + 1, l.set k (s[k] + 32), by omega, by go_num, by simpa using hl, ?_, (unhide HBe).setCell (p := ⟨w.heap.size, k, none⟩) (Nat.le_refl _) _⟩
          have := (unhide HRow).set k (s[k] + 32)
          first | exact this | (rw [h3] at this; exact this)
        case measure => simp [intOf]; omega
      · rcases (show s[k].toNat < 65 ∨ 90 < s[k].toNat by omega) with h | h
        · have h1 : decide ((65 : Int) ≤ (s[k].toNat : Int)) = false := by simp; omega
          go_wp2_with fail
          go_roundw
          case rel =>
            refine ⟨k + 1, l.set k (s[k]), by omega, by go_num, by simpa using hl, ?_, (unhide HBe).setCell (p := ⟨w.heap.size, k, none⟩) (Nat.le_refl _) _⟩
            have := (unhide HRow).set k (s[k])
            exact this
          case measure => simp [intOf]; omega
        · have h1 : decide ((65 : Int) ≤ (s[k].toNat : Int)) = true := by simp; omega
          have h2 : decide ((s[k].toNat : Int) ≤ 90) = false := by simp; omega
          go_wp2_with fail
          go_roundw
          case rel =>
            refine ⟨k + 1, l.set k (s[k]), by omega, by go_num, by simpa using hl, ?_, (unhide HBe).setCell (p := ⟨w.heap.size, k, none⟩) (Nat.le_refl _) _⟩
            have := (unhide HRow).set k (s[k])
            exact this
          case measure => simp [intOf]; omega
    · have hb := BRow.back hrow s.size
      rw [hl] at hb
      have HBe := hide hbe
      clear hrow hbe
      go_wp2_with fail
      go_ret
      exact ⟨⟨_, rfl⟩, unhide HBe⟩
end Go.Proofs.Qxb6613049aFmt
